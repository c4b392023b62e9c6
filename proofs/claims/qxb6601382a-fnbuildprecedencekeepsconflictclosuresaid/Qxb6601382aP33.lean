/- A piece of buildPrecedence's fourth loop: a read joins the item's readers. -/
import Derived.Test.Qxb6601382aCalm
namespace Go.Proofs.Qxb6601382a
open Go.RowKit

section
variable {F : Fix} {wr wa w1 : World} {c : Nat} {tag : Nat → Tag} {sv : Nat → Value} {bl : List UInt8 → Nat} {rv : List UInt8 → Value} {L : Nat → List Int} {I : Items}
theorem rd_done {key : List UInt8} {p : Int × List Int} {gg cap H : Nat} {x : Int} (hR : Rep F wr c tag sv bl rv L I) (hI : I key = some p) (hgrow : wa.grownBy w1 (rv key).ownBlock) (hga : wr.grownBy wa none)
    (hown : w1.ownsRow F.B 3 1 (.slice (some ⟨gg, 0, none⟩) (p.2.length + 1) cap) (p.2.length + 1) (ints p.2 ++ [.int .i64 x])) (hat : (rv key).ownBlock = some gg ∨ gg = wr.heap.size + H) (hlt : gg < w1.heap.size) :
    Rep F (w1.setCell ⟨bl key, 1, none⟩ (.slice (some ⟨gg, 0, none⟩) (p.2.length + 1) cap)) c (updT tag gg (.rd key)) sv bl (updK rv key (.slice (some ⟨gg, 0, none⟩) (p.2.length + 1) cap)) L (setI I key (p.1, p.2 ++ [x])) ∧
      Calm wr (w1.setCell ⟨bl key, 1, none⟩ (.slice (some ⟨gg, 0, none⟩) (p.2.length + 1) cap)) tag (updT tag gg (.rd key)) := by
  obtain ⟨a1, a2, a3, a4⟩ := hR.acc key p hI
  have hs : wr.heap.size ≤ w1.heap.size := Nat.le_trans hga.size hgrow.size
  have hbl : ∀ b, b < wr.heap.size → tag b ≠ .rd key → w1.heap[b]? = wr.heap[b]? := fun b hb hne =>
    (hgrow.block b (Nat.lt_of_lt_of_le hb hga.size) fun e => hne (a4 b e.symm)).trans (hga.block b hb (by simp))
  have hown' : OwnI w1 F.B (.slice (some ⟨gg, 0, none⟩) (p.2.length + 1) cap) (p.2 ++ [x]) := by
    have := app_own hown
    rwa [List.length_append] at this
  have hB : F.B ≤ gg := (hown'.lt gg rfl).1
  have hg := grown_set w1 ⟨bl key, 1, none⟩ (.slice (some ⟨gg, 0, none⟩) (p.2.length + 1) cap)
  have hsz : (w1.setCell ⟨bl key, 1, none⟩ (.slice (some ⟨gg, 0, none⟩) (p.2.length + 1) cap)).heap.size = w1.heap.size := by simp
  have hne : ∀ b, b < wr.heap.size → tag b ≠ .rd key → b ≠ gg := fun b hb ht e => by
    rcases hat with h | h
    · exact ht (by rw [e]; exact a4 gg h)
    · omega
  have hbg : bl key ≠ gg := hne _ a1.lt (by rw [a2]; simp)
  have hK : Keeps wr (w1.setCell ⟨bl key, 1, none⟩ (.slice (some ⟨gg, 0, none⟩) (p.2.length + 1) cap)) tag (updT tag gg (.rd key)) fun u => u = .acc key ∨ u = .rd key := fun b hb hC => by
    have h1 := (hR.lt b hb).2
    have h2 : tag b ≠ .rd key := fun e => hC (.inr e)
    have h3 : b ≠ bl key := fun e => hC (.inl (by rw [e]; exact a2))
    exact ⟨(hg.block b (by omega) (by simpa using h3)).trans (hbl b h1 h2), by simp [updT, hne b h1 h2]⟩
  refine ⟨hR.putAcc (p := p) (p' := (p.1, p.2 ++ [x])) hI hK (fun b hb => ?_) ?_ ?_ ?_ ?_, ?_⟩
  · rw [hsz]
    unfold updT at hb
    split at hb
    next e => subst e; exact ⟨hB, hlt⟩
    · exact ⟨(hR.lt b hb).1, Nat.lt_of_lt_of_le (hR.lt b hb).2 hs⟩
  · refine ((a1.of_block (hbl _ a1.lt (by rw [a2]; simp))).set 1 _).congr fun j hj => ?_
    match j, hj with
    | 0, _ => rfl
    | 1, _ => rfl
  · simp [updT, hbg, a2]
  · exact hown'.grown hg (Or.inr (by simpa [Value.ownBlock] using fun e => hbg e.symm))
  · intro b hb
    have : gg = b := by simpa [Value.ownBlock] using hb
    subst this
    simp [updT]
  · refine ⟨hg.os.trans (hgrow.os.trans hga.os), hg.tape.trans (hgrow.tape.trans hga.tape), hg.output.trans (hgrow.output.trans hga.output), by rw [hsz]; exact hs, fun b hb ht => ?_⟩
    have h3 : b ≠ bl key := fun e => by rw [e, a2] at ht; cases ht
    exact ⟨(hg.block b (by omega) (by simpa using h3)).trans (hbl b hb (by rw [ht]; simp)), by simp [updT, hne b hb (by rw [ht]; simp), ht]⟩
end

theorem getLast_get {l : List Int} (h : 0 < l.length) : l.getLast? = some (l[l.length - 1]'(by omega)) := by
  rw [List.getLast?_eq_getElem?, List.getElem?_eq_getElem (by omega)]

set_option maxRecDepth 100000 in
set_option maxHeartbeats 4000000 in
theorem piece33 {x0 x1 x2 x3 x4 x5 x6 x7 x8 x9 x10 x11 x12 x13 x17 x18 x19 x20 x21 x22 x23 x24 x25 x26 x27 x28 x29 x30 x31 x32 x33 x34 x35 x36 x37 x38 x39 x40 x41 x42 x43 x44 x45 x46 x47 x48 x49 x50 x51 x52 x53 x54 x55 x56 x57 x58 x59 x60 x61 x62 x63 x64 x65 x66 x67 x68 x69 x70 x71 x72 x73 x74 x75 x76 x77 x78 x79 x80 x81 x82 x83 x84 x85 x86 x87 x88 x89 x90 x91 x92 x93 x94 x95 x96 x97 x98 x99 x100 x101 x102 x103 x104 x105 x106 x107 x108 x109 x110 x111 x112 x113 x114 x115 x116 x117 x118 x119 x120 x121 x122 x123 x124 x125 x126 x127 x128 x129 x130 x131 x132 x133 x134 x135 x136 x137 x138 x139 x140 x141 x142 x143 x144 x145 x146 x147 x148 x149 x150 x151 x152 x153 x154 x155 x156 x157 x158 x159 x160 x161 x162 x163 x164 x165 x166 x167 x168 x169 x170 x171 x172 x173 x174 x175 x176 x177 x178 x179 x180 x181 x182 x183 x184 x185 x186 x187 x188 x189 x190 x191 x192 x193 x194 x195 x196 x197 x198 x199 x200 x201 x202 x203 x204 x205 x206 x207 x208 x209 x210 x211 x212 x213 x214 x215 x216 x217 x218 x219 x220 x221 x222 x223 x224 x225 x226 x227 x228 x229 x230 x231 x232 x233 x234 x235 x236 x237 x238 x239 x240 x241 x242 x243 x244 x245 x246 x247 : Value} (F : Fix) (c : Nat) (tag : Nat → Tag) (sv : Nat → Value) (bl : List UInt8 → Nat) (rv : List UInt8 → Value) (L : Nat → List Int) (I : Items) (key : List UInt8) (p : Int × List Int) (v H : Nat) (wr : World) (K : Act → World → Prop) (Q : Exit → Act → World → Prop)
    (hR : Rep F wr c tag sv bl rv L I) (hI : I key = some p) (hlen : p.2.length ≤ 65536) (hH : wr.cell? ⟨H, 0, none⟩ = some (.int .u8 0))
    (hQ : ∀ (y18 y173 y174 y175 y176 y177 y178 y179 y180 y181 y182 y183 y184 y185 y186 y187 y188 y189 y190 y191 y192 y193 y194 y195 y196 y197 y198 y199 y200 y201 y202 y203 y204 : Value) (w' : World) (tag' : Nat → Tag) (rv' : List UInt8 → Value), Rep F w' c tag' sv bl rv' L (setI I key (p.1, addR p.2 v)) → Calm wr w' tag tag' → Q (.exit 7) ⟨#[x0, x1, x2, x3, x4, x5, x6, x7, x8, x9, x10, x11, x12, x13, .pointer (some ⟨H, 0, none⟩), .int .i64 (v : Int), .pointer (some ⟨bl key, 0, none⟩), x17, y18, x19, x20, x21, x22, x23, x24, x25, x26, x27, x28, x29, x30, x31, x32, x33, x34, x35, x36, x37, x38, x39, x40, x41, x42, x43, x44, x45, x46, x47, x48, x49, x50, x51, x52, x53, x54, x55, x56, x57, x58, x59, x60, x61, x62, x63, x64, x65, x66, x67, x68, x69, x70, x71, x72, x73, x74, x75, x76, x77, x78, x79, x80, x81, x82, x83, x84, x85, x86, x87, x88, x89, x90, x91, x92, x93, x94, x95, x96, x97, x98, x99, x100, x101, x102, x103, x104, x105, x106, x107, x108, x109, x110, x111, x112, x113, x114, x115, x116, x117, x118, x119, x120, x121, x122, x123, x124, x125, x126, x127, x128, x129, x130, x131, x132, x133, x134, x135, x136, x137, x138, x139, x140, x141, x142, x143, x144, x145, x146, x147, x148, x149, x150, x151, x152, x153, x154, x155, x156, x157, x158, x159, x160, x161, x162, x163, x164, x165, x166, x167, x168, x169, x170, x171, x172, y173, y174, y175, y176, y177, y178, y179, y180, y181, y182, y183, y184, y185, y186, y187, y188, y189, y190, y191, y192, y193, y194, y195, y196, y197, y198, y199, y200, y201, y202, y203, y204, x205, x206, x207, x208, x209, x210, x211, x212, x213, x214, x215, x216, x217, x218, x219, x220, x221, x222, x223, x224, x225, x226, x227, x228, x229, x230, x231, x232, x233, x234, x235, x236, x237, x238, x239, x240, x241, x242, x243, x244, x245, x246, x247], []⟩ w') :
    Code.wp Try.prog ((Try.f34.body.bind (findSeq 33)).getD .skip) (Exit.then K Q) ⟨#[x0, x1, x2, x3, x4, x5, x6, x7, x8, x9, x10, x11, x12, x13, .pointer (some ⟨H, 0, none⟩), .int .i64 (v : Int), .pointer (some ⟨bl key, 0, none⟩), x17, x18, x19, x20, x21, x22, x23, x24, x25, x26, x27, x28, x29, x30, x31, x32, x33, x34, x35, x36, x37, x38, x39, x40, x41, x42, x43, x44, x45, x46, x47, x48, x49, x50, x51, x52, x53, x54, x55, x56, x57, x58, x59, x60, x61, x62, x63, x64, x65, x66, x67, x68, x69, x70, x71, x72, x73, x74, x75, x76, x77, x78, x79, x80, x81, x82, x83, x84, x85, x86, x87, x88, x89, x90, x91, x92, x93, x94, x95, x96, x97, x98, x99, x100, x101, x102, x103, x104, x105, x106, x107, x108, x109, x110, x111, x112, x113, x114, x115, x116, x117, x118, x119, x120, x121, x122, x123, x124, x125, x126, x127, x128, x129, x130, x131, x132, x133, x134, x135, x136, x137, x138, x139, x140, x141, x142, x143, x144, x145, x146, x147, x148, x149, x150, x151, x152, x153, x154, x155, x156, x157, x158, x159, x160, x161, x162, x163, x164, x165, x166, x167, x168, x169, x170, x171, x172, x173, x174, x175, x176, x177, x178, x179, x180, x181, x182, x183, x184, x185, x186, x187, x188, x189, x190, x191, x192, x193, x194, x195, x196, x197, x198, x199, x200, x201, x202, x203, x204, x205, x206, x207, x208, x209, x210, x211, x212, x213, x214, x215, x216, x217, x218, x219, x220, x221, x222, x223, x224, x225, x226, x227, x228, x229, x230, x231, x232, x233, x234, x235, x236, x237, x238, x239, x240, x241, x242, x243, x244, x245, x246, x247], []⟩ wr := by
  conv => arg 2; whnf
  obtain ⟨a1, a2, a3, a4⟩ := hR.acc key p hI
  obtain ⟨ra, rc, hrv⟩ := a3.form
  obtain ⟨n, hn⟩ : ∃ n, p.2.length = n := ⟨_, rfl⟩
  have HN : Hid (p.2.length = n) := hn
  rw [hn] at hrv hlen
  have cA := a1.cell (i := 1) (by omega)
  simp only [aF] at cA
  rw [hrv] at cA
  have lA := a1.lt
  have hrow1 := a1
  obtain ⟨j0, hj0, hz0, hz1, hz2⟩ := info_parts info3
  have hBle := (hR.lt F.S (by rw [hR.ts]; simp))
  have tA : (Value.slice ra n rc).ownBlock ≠ some (bl key) := fun e => by have := a4 _ (by rw [hrv]; exact e); rw [a2] at this; cases this
  rw [hrv] at a3
  have a3' : wr.ownsRow F.B 3 1 (.slice ra n rc) n (ints p.2) := by have := a3; unfold OwnI at this; rw [hn] at this; exact this
  clear hn
  by_cases h0 : n = 0
  · have hadd : addR p.2 v = p.2 ++ [(v : Int)] := by
      have : p.2 = [] := by have := HN.out; rw [h0] at this; simpa using this
      rw [this]; rfl
    rw [hadd] at hQ
    have i0 : ((n : Int) == 0) = true := by simp [h0]
    subst h0
    go_wp2_with (first
      | (at_builtin; refine wpList_append_lies _ rfl _ _ 24 rfl F.B 3 j0 (.int .i64 0) 1 8 Try.underlying24 hj0 hz0 hz1 hz2 rfl (by decide) (.slice ra 0 rc) 0 (ints p.2) rfl (a3'.alloc _) ⟨wr.heap.size, 0, none⟩ 1 1 [.int .i64 (v : Int)] rfl rfl (cell_one_new _ _ _) (by simp [Value.oneCell']) (by decide) (by unfold maxLen; omega) (by omega) (by simp; omega) (wr.heap.size + 1) (by simp) ?_
         intro gg cp w2 hown2 hgrow hat2 hlt2
         have hrow2 := (hrow1.alloc (.cells #[.int .i64 (v : Int)] 3)).of_block (hgrow.block (bl key) (by simp; omega) (Ne.symm tA))
         have d1 := hrow2.cell (i := 1) (by omega)
         have f1 := hrow2.frozen 1
         simp only [aF] at d1)
      | go_in)
    have hgr : (wr.alloc (.cells #[.int .i64 (v : Int)] 3)).grownBy w2 (rv key).ownBlock := by rw [hrv]; exact hgrow
    have hn2 := HN.out
    obtain ⟨g1, g2⟩ := rd_done hR hI hgr (World.grownBy_alloc wr _ none) (gg := gg) (cap := cp) (x := v) (H := 1) (by rw [hn2]; exact hown2) (by rw [hrv]; exact hat2) hlt2
    rw [hn2] at g1 g2
    exact hQ _ _ _ _ _ _ _ _ _ _ _ _ _ _ _ _ _ _ _ _ _ _ _ _ _ _ _ _ _ _ _ _ _ _ _ _ g1 g2
  · have hpos : 0 < p.2.length := by have := HN.out; omega
    have hnx : n - 1 < p.2.length := by have := HN.out; omega
    obtain ⟨g, rfl, hcell⟩ := OwnI.get a3 hnx
    have hgl := getLast_get hpos
    have e1 : p.2[p.2.length - 1]'(by omega) = p.2[n - 1] := by congr 1; have := HN.out; omega
    rw [e1] at hgl
    obtain ⟨z, hz⟩ : ∃ z, p.2[n - 1] = z := ⟨_, rfl⟩
    rw [hz] at hgl hcell
    have HL : Hid (p.2.getLast? = some z) := hgl
    clear hgl e1 hz hpos hnx
    have i0 : ((n : Int) == 0) = false := by simp [h0]
    have i1 : ((n - 1 : Nat) : Int) = (n : Int) - 1 := by omega
    have i2 : (0 : Int) ≤ (n : Int) - 1 := by omega
    have i3 : ((n : Int) - 1).toNat = n - 1 := by omega
    have i4 : (n : Int) - 1 < (n : Int) := by omega
    by_cases hzv : z = v
    · have hadd : addR p.2 v = p.2 := by unfold addR; rw [HL.out, hzv]; simp
      rw [hadd] at hQ
      have hQ2 : ∀ (y18 y173 y174 y175 y176 y177 y178 y179 y180 y181 y182 y183 y184 y185 y186 y187 y188 y189 y190 y191 y192 y193 y194 y195 y196 y197 y198 y199 y200 y201 y202 y203 y204 : Value), Q (.exit 7) ⟨#[x0, x1, x2, x3, x4, x5, x6, x7, x8, x9, x10, x11, x12, x13, .pointer (some ⟨H, 0, none⟩), .int .i64 (v : Int), .pointer (some ⟨bl key, 0, none⟩), x17, y18, x19, x20, x21, x22, x23, x24, x25, x26, x27, x28, x29, x30, x31, x32, x33, x34, x35, x36, x37, x38, x39, x40, x41, x42, x43, x44, x45, x46, x47, x48, x49, x50, x51, x52, x53, x54, x55, x56, x57, x58, x59, x60, x61, x62, x63, x64, x65, x66, x67, x68, x69, x70, x71, x72, x73, x74, x75, x76, x77, x78, x79, x80, x81, x82, x83, x84, x85, x86, x87, x88, x89, x90, x91, x92, x93, x94, x95, x96, x97, x98, x99, x100, x101, x102, x103, x104, x105, x106, x107, x108, x109, x110, x111, x112, x113, x114, x115, x116, x117, x118, x119, x120, x121, x122, x123, x124, x125, x126, x127, x128, x129, x130, x131, x132, x133, x134, x135, x136, x137, x138, x139, x140, x141, x142, x143, x144, x145, x146, x147, x148, x149, x150, x151, x152, x153, x154, x155, x156, x157, x158, x159, x160, x161, x162, x163, x164, x165, x166, x167, x168, x169, x170, x171, x172, y173, y174, y175, y176, y177, y178, y179, y180, y181, y182, y183, y184, y185, y186, y187, y188, y189, y190, y191, y192, y193, y194, y195, y196, y197, y198, y199, y200, y201, y202, y203, y204, x205, x206, x207, x208, x209, x210, x211, x212, x213, x214, x215, x216, x217, x218, x219, x220, x221, x222, x223, x224, x225, x226, x227, x228, x229, x230, x231, x232, x233, x234, x235, x236, x237, x238, x239, x240, x241, x242, x243, x244, x245, x246, x247], []⟩ wr := fun y18 y173 y174 y175 y176 y177 y178 y179 y180 y181 y182 y183 y184 y185 y186 y187 y188 y189 y190 y191 y192 y193 y194 y195 y196 y197 y198 y199 y200 y201 y202 y203 y204 => hQ y18 y173 y174 y175 y176 y177 y178 y179 y180 y181 y182 y183 y184 y185 y186 y187 y188 y189 y190 y191 y192 y193 y194 y195 y196 y197 y198 y199 y200 y201 y202 y203 y204 wr tag rv (by
        have : setI I key (p.1, p.2) = I := by
          funext x; unfold setI
          by_cases e : x = key
          · subst e; simp [hI]
          · simp [e]
        rw [this]; exact hR) (Calm.refl _ _)
      clear hQ
      have e2 : (z == (v : Int)) = true := by simp [hzv]
      go_wp2
      exact hQ2 _ _ _ _ _ _ _ _ _ _ _ _ _ _ _ _ _ _ _ _ _ _ _ _ _ _ _ _ _ _ _ _ _
    · have hadd : addR p.2 v = p.2 ++ [(v : Int)] := by
        unfold addR; rw [HL.out, if_neg (by simpa using hzv)]
      rw [hadd] at hQ
      have e2 : (z == (v : Int)) = false := by simp [hzv]
      go_wp2_with (first
        | (at_builtin; refine wpList_append_lies _ rfl _ _ 24 rfl F.B 3 j0 (.int .i64 0) 1 8 Try.underlying24 hj0 hz0 hz1 hz2 rfl (by decide) (.slice (some ⟨g, 0, none⟩) n rc) n (ints p.2) rfl (a3'.alloc _) ⟨wr.heap.size, 0, none⟩ 1 1 [.int .i64 (v : Int)] rfl rfl (cell_one_new _ _ _) (by simp [Value.oneCell']) (by decide) (by unfold maxLen; omega) (by omega) (by simp; omega) (wr.heap.size + 1) (by simp) ?_
           intro gg cp w2 hown2 hgrow hat2 hlt2
           have hrow2 := (hrow1.alloc (.cells #[.int .i64 (v : Int)] 3)).of_block (hgrow.block (bl key) (by simp; omega) (Ne.symm tA))
           have d1 := hrow2.cell (i := 1) (by omega)
           have f1 := hrow2.frozen 1
           simp only [aF] at d1)
        | go_in)
      have hgr : (wr.alloc (.cells #[.int .i64 (v : Int)] 3)).grownBy w2 (rv key).ownBlock := by rw [hrv]; exact hgrow
      have hn2 := HN.out
      obtain ⟨g1, g2⟩ := rd_done hR hI hgr (World.grownBy_alloc wr _ none) (gg := gg) (cap := cp) (x := v) (H := 1) (by rw [hn2]; exact hown2) (by rw [hrv]; exact hat2) hlt2
      rw [hn2] at g1 g2
      exact hQ _ _ _ _ _ _ _ _ _ _ _ _ _ _ _ _ _ _ _ _ _ _ _ _ _ _ _ _ _ _ _ _ _ _ _ _ g1 g2
end Go.Proofs.Qxb6601382a
