/- A piece of buildPrecedence's fourth loop: the edges from the readers. -/
import Derived.Test.Qxb6601382aCalm
import Derived.Deep.DrawnRows
namespace Go.Proofs.Qxb6601382a
open Go.RowKit
set_option linter.unusedSimpArgs false
attribute [local go_sem ↓] Go.wp_at_zero Go.wp_at_succ

theorem addAll_take {rd : List Int} {k : Nat} (hk : k < rd.length) (L : Nat → List Int) (v : Int) : addAll L (rd.take (k + 1)) v = add1 (addAll L (rd.take k) v) rd[k] v := by
  rw [List.take_succ_eq_append_getElem hk, addAll, List.foldl_append]; rfl

set_option maxRecDepth 100000 in
set_option maxHeartbeats 4000000 in
theorem piece37 {x0 x1 x2 x3 x4 x5 x7 x8 x9 x10 x11 x12 x13 x14 x17 x18 x19 x20 x21 x22 x23 x24 x25 x26 x27 x28 x29 x30 x31 x32 x33 x34 x35 x36 x37 x38 x39 x40 x41 x42 x43 x44 x45 x46 x47 x48 x49 x50 x51 x52 x53 x54 x55 x56 x57 x58 x59 x60 x61 x62 x63 x64 x65 x66 x67 x68 x69 x70 x71 x72 x73 x74 x75 x76 x77 x78 x79 x80 x81 x82 x83 x84 x85 x86 x87 x88 x89 x90 x91 x92 x93 x94 x95 x96 x97 x98 x99 x100 x101 x102 x103 x104 x105 x106 x107 x108 x109 x110 x111 x112 x113 x114 x115 x116 x117 x118 x119 x120 x121 x122 x123 x124 x125 x126 x127 x128 x129 x130 x131 x132 x133 x134 x135 x136 x137 x138 x139 x140 x141 x142 x143 x144 x145 x146 x147 x148 x149 x150 x151 x152 x153 x154 x155 x156 x157 x158 x159 x160 x161 x162 x163 x164 x165 x166 x167 x168 x169 x170 x171 x172 x173 x174 x175 x176 x177 x178 x179 x180 x181 x182 x183 x184 x185 x186 x187 x188 x189 x190 x191 x192 x193 x194 x195 x196 x197 x198 x199 x200 x201 x202 x203 x204 x205 x206 x207 x208 x209 x210 x211 x212 x213 x214 x215 x216 x217 x218 x219 x220 x221 x222 x223 x224 x225 x226 x227 x228 x229 x230 x231 x232 x233 x234 x235 x236 x237 x238 x239 x240 x241 x242 x243 x244 x245 x246 x247 : Value} (F : Fix) (c : Nat) (tag : Nat → Tag) (sv : Nat → Value) (bl : List UInt8 → Nat) (rv : List UInt8 → Value) (L : Nat → List Int) (I : Items) (key : List UInt8) (p : Int × List Int) (v : Nat) (wr0 : World) (K : Act → World → Prop) (Q : Exit → Act → World → Prop)
    (hR0 : Rep F wr0 c tag sv bl rv L I) (hI : I key = some p) (hlen : p.2.length ≤ 65536) (hmem : ∀ r ∈ p.2, 0 ≤ r ∧ r < F.n) (hL : ∀ j, (L j).length ≤ 8589934592)
    (hK : ∀ (y20 y205 y206 y207 y208 y209 y210 y211 y212 y213 y214 y215 y216 y217 y218 y219 y220 y221 y222 y223 y224 y225 y226 y227 y228 y229 y230 y231 y232 y233 : Value) (w' : World) (tag' : Nat → Tag) (sv' : Nat → Value), Rep F w' c tag' sv' bl rv (addAll L p.2 v) I → Calm wr0 w' tag tag' → K ⟨#[x0, x1, x2, x3, x4, x5, .pointer (some ⟨F.G, 0, none⟩), x7, x8, x9, x10, x11, x12, x13, x14, .int .i64 (v : Int), .pointer (some ⟨bl key, 0, none⟩), x17, x18, x19, y20, x21, x22, x23, x24, x25, x26, x27, x28, x29, x30, x31, x32, x33, x34, x35, x36, x37, x38, x39, x40, x41, x42, x43, x44, x45, x46, x47, x48, x49, x50, x51, x52, x53, x54, x55, x56, x57, x58, x59, x60, x61, x62, x63, x64, x65, x66, x67, x68, x69, x70, x71, x72, x73, x74, x75, x76, x77, x78, x79, x80, x81, x82, x83, x84, x85, x86, x87, x88, x89, x90, x91, x92, x93, x94, x95, x96, x97, x98, x99, x100, x101, x102, x103, x104, x105, x106, x107, x108, x109, x110, x111, x112, x113, x114, x115, x116, x117, x118, x119, x120, x121, x122, x123, x124, x125, x126, x127, x128, x129, x130, x131, x132, x133, x134, x135, x136, x137, x138, x139, x140, x141, x142, x143, x144, x145, x146, x147, x148, x149, x150, x151, x152, x153, x154, x155, x156, x157, x158, x159, x160, x161, x162, x163, x164, x165, x166, x167, x168, x169, x170, x171, x172, x173, x174, x175, x176, x177, x178, x179, x180, x181, x182, x183, x184, x185, x186, x187, x188, x189, x190, x191, x192, x193, x194, x195, x196, x197, x198, x199, x200, x201, x202, x203, x204, y205, y206, y207, y208, y209, y210, y211, y212, y213, y214, y215, y216, y217, y218, y219, y220, y221, y222, y223, y224, y225, y226, y227, y228, y229, y230, y231, y232, y233, x234, x235, x236, x237, x238, x239, x240, x241, x242, x243, x244, x245, x246, x247], []⟩ w') :
    Code.wp Try.prog ((Try.f34.body.bind (findSeq 37)).getD .skip) (Exit.then K Q) ⟨#[x0, x1, x2, x3, x4, x5, .pointer (some ⟨F.G, 0, none⟩), x7, x8, x9, x10, x11, x12, x13, x14, .int .i64 (v : Int), .pointer (some ⟨bl key, 0, none⟩), x17, x18, x19, x20, x21, x22, x23, x24, x25, x26, x27, x28, x29, x30, x31, x32, x33, x34, x35, x36, x37, x38, x39, x40, x41, x42, x43, x44, x45, x46, x47, x48, x49, x50, x51, x52, x53, x54, x55, x56, x57, x58, x59, x60, x61, x62, x63, x64, x65, x66, x67, x68, x69, x70, x71, x72, x73, x74, x75, x76, x77, x78, x79, x80, x81, x82, x83, x84, x85, x86, x87, x88, x89, x90, x91, x92, x93, x94, x95, x96, x97, x98, x99, x100, x101, x102, x103, x104, x105, x106, x107, x108, x109, x110, x111, x112, x113, x114, x115, x116, x117, x118, x119, x120, x121, x122, x123, x124, x125, x126, x127, x128, x129, x130, x131, x132, x133, x134, x135, x136, x137, x138, x139, x140, x141, x142, x143, x144, x145, x146, x147, x148, x149, x150, x151, x152, x153, x154, x155, x156, x157, x158, x159, x160, x161, x162, x163, x164, x165, x166, x167, x168, x169, x170, x171, x172, x173, x174, x175, x176, x177, x178, x179, x180, x181, x182, x183, x184, x185, x186, x187, x188, x189, x190, x191, x192, x193, x194, x195, x196, x197, x198, x199, x200, x201, x202, x203, x204, x205, x206, x207, x208, x209, x210, x211, x212, x213, x214, x215, x216, x217, x218, x219, x220, x221, x222, x223, x224, x225, x226, x227, x228, x229, x230, x231, x232, x233, x234, x235, x236, x237, x238, x239, x240, x241, x242, x243, x244, x245, x246, x247], []⟩ wr0 := by
  conv => arg 2; whnf
  obtain ⟨a1, -, a3, -⟩ := hR0.acc key p hI
  obtain ⟨ra, rc, hrv⟩ := a3.form
  obtain ⟨n, hn⟩ : ∃ n, p.2.length = n := ⟨_, rfl⟩
  have HN : Hid (p.2.length = n) := hn
  rw [hn] at hrv hlen
  have cA := a1.cell (i := 1) (by omega)
  simp only [aF] at cA
  rw [hrv] at cA
  clear hn a1 a3
  go_wp2
  go_loopw [210] (fun s wx => ∃ (k : Nat) (tag' : Nat → Tag) (sv' : Nat → Value), k ≤ n ∧ s = .int .i64 k ∧ Rep F wx c tag' sv' bl rv (addAll L (p.2.take k) v) I ∧ Calm wr0 wx tag tag') (fun s _ => n - (intOf s).toNat)
  case atStart => exact ⟨0, tag, sv, Nat.zero_le _, rfl, hR0, Calm.refl _ _⟩
  case round =>
    obtain ⟨k, tag', sv', hk, rfl, hR, hC⟩ := hrel
    by_cases hlt : k < n
    · have hkx : k < p.2.length := by have := HN.out; omega
      have hat1 := addAll_take hkx L v
      obtain ⟨a1, a2, a3, a4⟩ := hR.acc key p hI
      rw [hrv] at a3
      obtain ⟨g, rfl, hcell⟩ := OwnI.get a3 hkx
      obtain ⟨hx0, hxn⟩ := hmem _ (List.getElem_mem hkx)
      obtain ⟨r, hr⟩ : ∃ r : Nat, p.2[k] = r := ⟨(p.2[k]).toNat, by omega⟩
      rw [hr] at hcell hx0 hxn hat1
      have HA : Hid (addAll L (p.2.take (k + 1)) v = add1 (addAll L (p.2.take k) v) r v) := hat1
      have hLk : ∀ j, (addAll L (p.2.take k) v j).length ≤ 8590000128 := fun j => by
        have h1 := addAll_len (p.2.take k) v j L
        have h2 := hL j
        have h3 : (p.2.take k).length ≤ 65536 := by rw [List.length_take]; omega
        omega
      generalize hLL : addAll L (p.2.take k) v = LL at hR hLk HA
      have i1 : (k : Int) < (n : Int) := by omega
      have hrn : r < F.n := by omega
      clear hr hat1 hLL
      by_cases hv : r = v
      · have HA2 : Hid (addAll L (p.2.take (k + 1)) v = LL) := HA.out.trans (by rw [add1, if_pos (by simp [hv])])
        have e1 : ((r : Int) == (v : Int)) = true := by simp [hv]
        go_wp2
        go_roundw
        case rel => exact ⟨k + 1, tag', sv', by omega, by go_num, by rw [HA2.out]; exact hR, hC⟩
        case measure => simp [intOf]; omega
      · have HA2 : Hid (addAll L (p.2.take (k + 1)) v = fun j => if j = r then LL j ++ [(v : Int)] else LL j) := HA.out.trans (by
          rw [add1, if_neg (by omega)]
          funext j
          rw [addE]
          by_cases e : j = r
          · subst e; simp
          · rw [if_neg e, if_neg (by omega)])
        have e1 : ((r : Int) == (v : Int)) = false := by simp; omega
        have i2 : (0 : Int) ≤ (r : Int) := hx0
        have i3 : (r : Int) < (F.n : Int) := hxn
        have cG := hR.g.cell (i := 2) (by omega)
        simp only [gF] at cG
        have cS := hR.s.cell (i := r) hrn
        have fS := hR.s.frozen r
        obtain ⟨hown, htag⟩ := hR.suc r hrn
        have hLr := hLk r
        have lG := hR.g.lt
        have lS := hR.s.lt
        have tG : (sv' r).ownBlock ≠ some F.G := fun e => by have := htag _ e; rw [hR.tg] at this; cases this
        have tS : (sv' r).ownBlock ≠ some F.S := fun e => by have := htag _ e; rw [hR.ts] at this; cases this
        have cSa := fun ob : Obj => (hR.s.alloc ob).cell hrn
        have cGa := fun ob : Obj => (hR.g.alloc ob).cell (i := 2) (by omega)
        simp only [gF] at cGa
        have nGS : ¬ F.G = F.S := fun e => by have := hR.tg; rw [e, hR.ts] at this; cases this
        obtain ⟨j0, hj0, hz0, hz1, hz2⟩ := info_parts info3
        go_wp2_with fail
        refine wp_region_noPanic ?_
        refine wp_region_held_drew (S := fun w' => w'.cell? ⟨F.G, 2, none⟩ = some (.slice (some ⟨F.S, 0, none⟩) F.n F.n)) (by kernel_rfl) cG (fun hHeld => ?_)
        refine wpAnyH_take (i := 0) (v := ?_) rfl (by kernel_rfl) (by kernel_rfl) (by kernel_rfl) (fun _ _ _ h => h) (Or.inl ⟨by rfl, ?_⟩) (by assumption) ?_
        rotate_left
        · intro w hSw
          try dsimp only at hSw
          go_simp
          try with_reducible rfl
        simp only [Act.put, List.getElem_toArray, List.getElem_cons_zero, List.getElem_cons_succ, List.setIfInBounds_toArray, List.set_cons_zero, List.set_cons_succ]
        refine wpAnyH_take (i := 1) (v := ?_) rfl (by kernel_rfl) (by kernel_rfl) (by kernel_rfl) (fun _ _ _ h => h) (Or.inl ⟨by rfl, ?_⟩) (by assumption) ?_
        rotate_left
        · intro w hSw
          try dsimp only at hSw
          go_simp
          try with_reducible rfl
        simp only [Act.put, List.getElem_toArray, List.getElem_cons_zero, List.getElem_cons_succ, List.setIfInBounds_toArray, List.set_cons_zero, List.set_cons_succ]
        refine wpAnyH_take (i := 2) (v := ?_) rfl (by kernel_rfl) (by kernel_rfl) (by kernel_rfl) (fun _ _ _ h => h) (Or.inl ⟨by rfl, ?_⟩) (by assumption) ?_
        rotate_left
        · intro w hSw
          try dsimp only at hSw
          go_simp
          try with_reducible rfl
        simp only [Act.put, List.getElem_toArray, List.getElem_cons_zero, List.getElem_cons_succ, List.setIfInBounds_toArray, List.set_cons_zero, List.set_cons_succ]
        refine wpAnyH_take (i := 3) (v := ?_) rfl (by kernel_rfl) (by kernel_rfl) (by kernel_rfl) (fun _ _ _ h => h) (Or.inl ⟨by rfl, ?_⟩) (by assumption) ?_
        rotate_left
        · intro w hSw
          try dsimp only at hSw
          go_simp
          try with_reducible rfl
        simp only [Act.put, List.getElem_toArray, List.getElem_cons_zero, List.getElem_cons_succ, List.setIfInBounds_toArray, List.set_cons_zero, List.set_cons_succ]
        refine wpAnyH_take (i := 4) (v := ?_) rfl (by kernel_rfl) (by kernel_rfl) (by kernel_rfl) (fun _ _ _ h => h) (Or.inl ⟨by rfl, ?_⟩) (by assumption) ?_
        rotate_left
        · intro w hSw
          try dsimp only at hSw
          go_simp
          try with_reducible rfl
        simp only [Act.put, List.getElem_toArray, List.getElem_cons_zero, List.getElem_cons_succ, List.setIfInBounds_toArray, List.set_cons_zero, List.set_cons_succ]
        refine wpAnyH_take (i := 5) (v := ?_) rfl (by kernel_rfl) (by kernel_rfl) (by kernel_rfl) (fun _ _ _ h => h) (Or.inl ⟨by rfl, ?_⟩) (by assumption) ?_
        rotate_left
        · intro w hSw
          try dsimp only at hSw
          go_simp
          try with_reducible rfl
        simp only [Act.put, List.getElem_toArray, List.getElem_cons_zero, List.getElem_cons_succ, List.setIfInBounds_toArray, List.set_cons_zero, List.set_cons_succ]
        refine wpAnyH_take (i := 6) (v := ?_) rfl (by kernel_rfl) (by kernel_rfl) (by kernel_rfl) (fun _ _ _ h => h) (Or.inl ⟨by rfl, ?_⟩) (by assumption) ?_
        rotate_left
        · intro w hSw
          try dsimp only at hSw
          go_simp
          try with_reducible rfl
        simp only [Act.put, List.getElem_toArray, List.getElem_cons_zero, List.getElem_cons_succ, List.setIfInBounds_toArray, List.set_cons_zero, List.set_cons_succ]
        refine wpAnyH_take (i := 7) (v := ?_) rfl (by kernel_rfl) (by kernel_rfl) (by kernel_rfl) (fun _ _ _ h => h) (Or.inl ⟨by rfl, ?_⟩) (by assumption) ?_
        rotate_left
        · intro w hSw
          try dsimp only at hSw
          go_simp
          try with_reducible rfl
        simp only [Act.put, List.getElem_toArray, List.getElem_cons_zero, List.getElem_cons_succ, List.setIfInBounds_toArray, List.set_cons_zero, List.set_cons_succ]
        refine wpAnyH_take (i := 8) (v := ?_) rfl (by kernel_rfl) (by kernel_rfl) (by kernel_rfl) (fun _ _ _ h => h) (Or.inl ⟨by rfl, ?_⟩) (by assumption) ?_
        rotate_left
        · intro w hSw
          try dsimp only at hSw
          go_simp
          try with_reducible rfl
        simp only [Act.put, List.getElem_toArray, List.getElem_cons_zero, List.getElem_cons_succ, List.setIfInBounds_toArray, List.set_cons_zero, List.set_cons_succ]
        refine wpAnyH_take (i := 9) (v := ?_) rfl (by kernel_rfl) (by kernel_rfl) (by kernel_rfl) (fun _ _ _ h => h) (Or.inl ⟨by rfl, ?_⟩) (by assumption) ?_
        rotate_left
        · intro w hSw
          try dsimp only at hSw
          go_simp
          try with_reducible rfl
        simp only [Act.put, List.getElem_toArray, List.getElem_cons_zero, List.getElem_cons_succ, List.setIfInBounds_toArray, List.set_cons_zero, List.set_cons_succ]
        refine wpAnyH_take (i := 10) (v := ?_) rfl (by kernel_rfl) (by kernel_rfl) (by kernel_rfl) (fun _ _ _ h => h) (Or.inl ⟨by rfl, ?_⟩) (by assumption) ?_
        rotate_left
        · intro w hSw
          try dsimp only at hSw
          go_simp
          try with_reducible rfl
        simp only [Act.put, List.getElem_toArray, List.getElem_cons_zero, List.getElem_cons_succ, List.setIfInBounds_toArray, List.set_cons_zero, List.set_cons_succ]
        refine wpAnyH_take (i := 12) (v := ?_) rfl (by kernel_rfl) (by kernel_rfl) (by kernel_rfl) (fun _ _ _ h => h) (Or.inl ⟨by rfl, ?_⟩) (by assumption) ?_
        rotate_left
        · intro w hSw
          try dsimp only at hSw
          go_simp
          try with_reducible rfl
        simp only [Act.put, List.getElem_toArray, List.getElem_cons_zero, List.getElem_cons_succ, List.setIfInBounds_toArray, List.set_cons_zero, List.set_cons_succ]
        refine wpAnyH_ready (rs := [11, 13]) (by kernel_rfl) (by simp) ?_
        refine AllReadyH.cons rfl (fun K' hK' => ?_) (AllReadyH.cons rfl (fun K' hK' => ?_) AllReadyH.nil)
        · go_simp
          try go_wp2_with fail
          refine hK'.out _ _ cG (fun hHeld => ?_)
          clear hK' K'
          try simp only [Act.put, List.getElem_toArray, List.getElem_cons_zero, List.getElem_cons_succ, List.setIfInBounds_toArray, List.set_cons_zero, List.set_cons_succ]
          refine wpAnyH_ready (rs := [13]) (by kernel_rfl) (by simp) ?_
          refine AllReadyH.cons rfl (fun K' hK' => ?_) AllReadyH.nil
          go_simp
          try go_wp2_with fail
          refine hK'.out _ _ (cGa _) (fun hHeld => ?_)
          clear hK' K'
          try simp only [Act.put, List.getElem_toArray, List.getElem_cons_zero, List.getElem_cons_succ, List.setIfInBounds_toArray, List.set_cons_zero, List.set_cons_succ]
          refine wpAnyH_ready (rs := [14]) (by kernel_rfl) (by simp) ?_
          refine AllReadyH.cons rfl (fun K' hK' => ?_) AllReadyH.nil
          refine step_append_lies _ (by rfl) _ _ _ (by rfl) F.B 3 j0 _ 1 8 Try.underlying24 hj0 hz0 hz1 hz2 rfl (by omega) (sv' r) (LL r).length (ints (LL r)) (by rfl) ((hown.alloc _).drew)
            ⟨wr.heap.size, 0, none⟩ 1 1 [.int .i64 (v : Int)] (by rfl) (by rfl) (World.news_of_block (cs := #[.int .i64 (v : Int)]) (t := 3) (fr := (0, 0)) (heap_alloc_new wr _)) (by simp [Value.oneCell'])
            (by omega) (by unfold maxLen; omega) (by omega) (by have := (hR.lt F.S (by rw [hR.ts]; simp)).1; simp; omega) (wr.heap.size + 1) (by simp) ?_
          intro gg cap w1 hown1 hgrow hat hlt
          have fS1 : w1.frozen? ⟨F.S, r, none⟩ = false := (hgrow.frozen_far ⟨F.S, r, none⟩ (by simp; omega) (Ne.symm tS)).trans ((hR.s.alloc _).frozen r)
          have cS1 : w1.cell? ⟨F.S, r, none⟩ = some (sv' r) := (hgrow.cell_far ⟨F.S, r, none⟩ (by simp; omega) (Ne.symm tS)).trans ((hR.s.alloc _).cell hrn)
          have cG1 : w1.cell? ⟨F.G, 2, none⟩ = some (.slice (some ⟨F.S, 0, none⟩) F.n F.n) := (hgrow.cell_far ⟨F.G, 2, none⟩ (by simp; omega) (Ne.symm tG)).trans ((hR.g.alloc _).cell (i := 2) (by omega))
          have s1 := hgrow.size
          simp at s1
          refine hK'.out _ _ cG1 (fun hHeld => ?_)
          clear hK' K'
          try simp only [Act.put, List.getElem_toArray, List.getElem_cons_zero, List.getElem_cons_succ, List.setIfInBounds_toArray, List.set_cons_zero, List.set_cons_succ]
          refine wpAnyH_take (i := 15) (v := ?_) rfl (by kernel_rfl) (by kernel_rfl) (by kernel_rfl) (fun _ _ _ h => h) (Or.inl ⟨by rfl, ?_⟩) (by assumption) ?_
          rotate_left
          · intro w hSw
            try dsimp only at hSw
            go_simp
            try with_reducible rfl
          simp only [Act.put, List.getElem_toArray, List.getElem_cons_zero, List.getElem_cons_succ, List.setIfInBounds_toArray, List.set_cons_zero, List.set_cons_succ]
          refine wpAnyH_ready (rs := [16]) (by kernel_rfl) (by simp) ?_
          refine AllReadyH.cons rfl (fun K' hK' => ?_) AllReadyH.nil
          go_simp
          try go_wp2_with fail
          refine hK'.out _ _ ((World.grownBy.cell_far (grown_set w1 _ _) ⟨F.G, 2, none⟩ (by simp; omega) (by simpa using nGS)).trans cG1) (fun hHeld => ?_)
          clear hK' K'
          try simp only [Act.put, List.getElem_toArray, List.getElem_cons_zero, List.getElem_cons_succ, List.setIfInBounds_toArray, List.set_cons_zero, List.set_cons_succ]
          refine wpAnyH_done (by kernel_rfl) ?_ _
          refine NoPanic.normal ?_
          obtain ⟨f1, f2⟩ := suc_done hR hrn hgrow ⟨rfl, rfl, rfl, by simp, fun k hk _ => Below.heap_alloc wr _ k hk⟩ hown1 hat hlt
          go_wp2
          go_roundw
          case rel => exact ⟨k + 1, _, _, by omega, by go_num, by rw [HA2.out]; exact f1, hC.trans f2⟩
          case measure => simp [intOf]; omega
        · go_simp
          try go_wp2_with fail
          refine hK'.out _ _ (cGa _) (fun hHeld => ?_)
          clear hK' K'
          try simp only [Act.put, List.getElem_toArray, List.getElem_cons_zero, List.getElem_cons_succ, List.setIfInBounds_toArray, List.set_cons_zero, List.set_cons_succ]
          refine wpAnyH_ready (rs := [11]) (by kernel_rfl) (by simp) ?_
          refine AllReadyH.cons rfl (fun K' hK' => ?_) AllReadyH.nil
          go_simp
          try go_wp2_with fail
          refine hK'.out _ _ (cGa _) (fun hHeld => ?_)
          clear hK' K'
          try simp only [Act.put, List.getElem_toArray, List.getElem_cons_zero, List.getElem_cons_succ, List.setIfInBounds_toArray, List.set_cons_zero, List.set_cons_succ]
          refine wpAnyH_ready (rs := [14]) (by kernel_rfl) (by simp) ?_
          refine AllReadyH.cons rfl (fun K' hK' => ?_) AllReadyH.nil
          refine step_append_lies _ (by rfl) _ _ _ (by rfl) F.B 3 j0 _ 1 8 Try.underlying24 hj0 hz0 hz1 hz2 rfl (by omega) (sv' r) (LL r).length (ints (LL r)) (by rfl) ((hown.alloc _).drew)
            ⟨wr.heap.size, 0, none⟩ 1 1 [.int .i64 (v : Int)] (by rfl) (by rfl) (World.news_of_block (cs := #[.int .i64 (v : Int)]) (t := 3) (fr := (0, 0)) (heap_alloc_new wr _)) (by simp [Value.oneCell'])
            (by omega) (by unfold maxLen; omega) (by omega) (by have := (hR.lt F.S (by rw [hR.ts]; simp)).1; simp; omega) (wr.heap.size + 1) (by simp) ?_
          intro gg cap w1 hown1 hgrow hat hlt
          have fS1 : w1.frozen? ⟨F.S, r, none⟩ = false := (hgrow.frozen_far ⟨F.S, r, none⟩ (by simp; omega) (Ne.symm tS)).trans ((hR.s.alloc _).frozen r)
          have cS1 : w1.cell? ⟨F.S, r, none⟩ = some (sv' r) := (hgrow.cell_far ⟨F.S, r, none⟩ (by simp; omega) (Ne.symm tS)).trans ((hR.s.alloc _).cell hrn)
          have cG1 : w1.cell? ⟨F.G, 2, none⟩ = some (.slice (some ⟨F.S, 0, none⟩) F.n F.n) := (hgrow.cell_far ⟨F.G, 2, none⟩ (by simp; omega) (Ne.symm tG)).trans ((hR.g.alloc _).cell (i := 2) (by omega))
          have s1 := hgrow.size
          simp at s1
          refine hK'.out _ _ cG1 (fun hHeld => ?_)
          clear hK' K'
          try simp only [Act.put, List.getElem_toArray, List.getElem_cons_zero, List.getElem_cons_succ, List.setIfInBounds_toArray, List.set_cons_zero, List.set_cons_succ]
          refine wpAnyH_take (i := 15) (v := ?_) rfl (by kernel_rfl) (by kernel_rfl) (by kernel_rfl) (fun _ _ _ h => h) (Or.inl ⟨by rfl, ?_⟩) (by assumption) ?_
          rotate_left
          · intro w hSw
            try dsimp only at hSw
            go_simp
            try with_reducible rfl
          simp only [Act.put, List.getElem_toArray, List.getElem_cons_zero, List.getElem_cons_succ, List.setIfInBounds_toArray, List.set_cons_zero, List.set_cons_succ]
          refine wpAnyH_ready (rs := [16]) (by kernel_rfl) (by simp) ?_
          refine AllReadyH.cons rfl (fun K' hK' => ?_) AllReadyH.nil
          go_simp
          try go_wp2_with fail
          refine hK'.out _ _ ((World.grownBy.cell_far (grown_set w1 _ _) ⟨F.G, 2, none⟩ (by simp; omega) (by simpa using nGS)).trans cG1) (fun hHeld => ?_)
          clear hK' K'
          try simp only [Act.put, List.getElem_toArray, List.getElem_cons_zero, List.getElem_cons_succ, List.setIfInBounds_toArray, List.set_cons_zero, List.set_cons_succ]
          refine wpAnyH_done (by kernel_rfl) ?_ _
          refine NoPanic.normal ?_
          obtain ⟨f1, f2⟩ := suc_done hR hrn hgrow ⟨rfl, rfl, rfl, by simp, fun k hk _ => Below.heap_alloc wr _ k hk⟩ hown1 hat hlt
          go_wp2
          go_roundw
          case rel => exact ⟨k + 1, _, _, by omega, by go_num, by rw [HA2.out]; exact f1, hC.trans f2⟩
          case measure => simp [intOf]; omega
    · obtain rfl : k = n := by omega
      rw [List.take_of_length_le (by have := HN.out; omega)] at hR
      have hK2 : ∀ (y20 y205 y206 y207 y208 y209 y210 y211 y212 y213 y214 y215 y216 y217 y218 y219 y220 y221 y222 y223 y224 y225 y226 y227 y228 y229 y230 y231 y232 y233 : Value), K ⟨#[x0, x1, x2, x3, x4, x5, .pointer (some ⟨F.G, 0, none⟩), x7, x8, x9, x10, x11, x12, x13, x14, .int .i64 (v : Int), .pointer (some ⟨bl key, 0, none⟩), x17, x18, x19, y20, x21, x22, x23, x24, x25, x26, x27, x28, x29, x30, x31, x32, x33, x34, x35, x36, x37, x38, x39, x40, x41, x42, x43, x44, x45, x46, x47, x48, x49, x50, x51, x52, x53, x54, x55, x56, x57, x58, x59, x60, x61, x62, x63, x64, x65, x66, x67, x68, x69, x70, x71, x72, x73, x74, x75, x76, x77, x78, x79, x80, x81, x82, x83, x84, x85, x86, x87, x88, x89, x90, x91, x92, x93, x94, x95, x96, x97, x98, x99, x100, x101, x102, x103, x104, x105, x106, x107, x108, x109, x110, x111, x112, x113, x114, x115, x116, x117, x118, x119, x120, x121, x122, x123, x124, x125, x126, x127, x128, x129, x130, x131, x132, x133, x134, x135, x136, x137, x138, x139, x140, x141, x142, x143, x144, x145, x146, x147, x148, x149, x150, x151, x152, x153, x154, x155, x156, x157, x158, x159, x160, x161, x162, x163, x164, x165, x166, x167, x168, x169, x170, x171, x172, x173, x174, x175, x176, x177, x178, x179, x180, x181, x182, x183, x184, x185, x186, x187, x188, x189, x190, x191, x192, x193, x194, x195, x196, x197, x198, x199, x200, x201, x202, x203, x204, y205, y206, y207, y208, y209, y210, y211, y212, y213, y214, y215, y216, y217, y218, y219, y220, y221, y222, y223, y224, y225, y226, y227, y228, y229, y230, y231, y232, y233, x234, x235, x236, x237, x238, x239, x240, x241, x242, x243, x244, x245, x246, x247], []⟩ wr := fun y20 y205 y206 y207 y208 y209 y210 y211 y212 y213 y214 y215 y216 y217 y218 y219 y220 y221 y222 y223 y224 y225 y226 y227 y228 y229 y230 y231 y232 y233 => hK y20 y205 y206 y207 y208 y209 y210 y211 y212 y213 y214 y215 y216 y217 y218 y219 y220 y221 y222 y223 y224 y225 y226 y227 y228 y229 y230 y231 y232 y233 wr tag' sv' hR hC
      clear hK
      go_wp2
      exact hK2 _ _ _ _ _ _ _ _ _ _ _ _ _ _ _ _ _ _ _ _ _ _ _ _ _ _ _ _ _ _
end Go.Proofs.Qxb6601382a
