/- One round of buildPrecedence's fourth loop. -/
import Derived.Test.Qxb6601382aP28
import Derived.Test.Qxb6601382aP31
import Derived.Test.Qxb6601382aP33
import Derived.Test.Qxb6601382aP37
import Derived.Test.Qxb6601382aP43
namespace Go.Proofs.Qxb6601382a
open Go.RowKit

def oF (o : POp) : Nat → Value
  | 0 => .int .u8 o.kind
  | 1 => .int .i64 o.txn
  | _ => .string o.item

theorem setI_twice (I : Items) (k : List UInt8) (p q : Int × List Int) : setI (setI I k p) k q = setI I k q := by
  funext x; unfold setI; by_cases e : x = k <;> simp [e]

set_option maxRecDepth 100000 in
set_option maxHeartbeats 4000000 in
theorem round24 {x0 x1 x2 x4 x5 x7 x8 x10 x11 x13 x14 x15 x16 x17 x18 x19 x20 x21 x22 x23 x24 x25 x26 x27 x28 x29 x30 x31 x32 x33 x34 x35 x36 x37 x38 x39 x40 x41 x42 x43 x44 x45 x46 x47 x48 x49 x50 x51 x52 x53 x54 x55 x56 x57 x58 x59 x60 x61 x62 x63 x64 x65 x66 x67 x68 x69 x70 x71 x72 x73 x74 x75 x76 x77 x78 x79 x80 x81 x82 x83 x84 x85 x86 x87 x88 x89 x90 x91 x92 x93 x94 x95 x96 x97 x98 x100 x102 x103 x104 x105 x106 x107 x108 x109 x110 x111 x112 x113 x114 x115 x116 x117 x118 x119 x120 x121 x122 x123 x124 x125 x126 x127 x128 x129 x130 x131 x132 x133 x134 x135 x136 x137 x138 x139 x140 x141 x142 x143 x144 x145 x146 x147 x148 x149 x150 x151 x152 x153 x154 x155 x156 x157 x158 x159 x160 x161 x162 x163 x164 x165 x166 x167 x168 x169 x170 x171 x172 x173 x174 x175 x176 x177 x178 x179 x180 x181 x182 x183 x184 x185 x186 x187 x188 x189 x190 x191 x192 x193 x194 x195 x196 x197 x198 x199 x200 x201 x202 x203 x204 x205 x206 x207 x208 x209 x210 x211 x212 x213 x214 x215 x216 x217 x218 x219 x220 x221 x222 x223 x224 x225 x226 x227 x228 x229 x230 x231 x232 x233 x234 x235 x236 x237 x238 x239 x240 x241 x242 x243 x244 x245 x246 x247 : Value} (F : Fix) (q : Nat) (tag : Nat → Tag) (sv : Nat → Value) (bl : List UInt8 → Nat) (rv : List UInt8 → Value) (s : St) (o : POp) (b len cap : Nat) (wr : World) (K : Act → World → Prop) (Q : Exit → Act → World → Prop)
    (hR : Rep F wr q tag sv bl rv s.succ s.items) (hF : Fits F.n q s) (hq : q < len) (hlen : len ≤ 65536) (hB : F.B ≤ wr.heap.size)
    (g0 : wr.cell? ⟨b, q * 3, none⟩ = some (.int .u8 o.kind)) (g1 : wr.cell? ⟨b, q * 3 + 1, none⟩ = some (.int .i64 o.txn)) (g2 : wr.cell? ⟨b, q * 3 + 2, none⟩ = some (.string o.item)) (hw : Wf o.txn) (hsz : o.item.size ≤ maxLen) (hN : ¬ o.skips F.ab → F.N o.txn < F.n)
    (hK : ∀ (y14 y15 y16 y17 y18 y20 y103 y104 y105 y106 y107 y108 y109 y110 y111 y112 y113 y114 y115 y116 y117 y118 y119 y120 y121 y122 y123 y124 y125 y126 y127 y128 y129 y130 y131 y132 y133 y134 y135 y136 y137 y138 y139 y140 y141 y142 y143 y144 y145 y146 y147 y148 y149 y150 y151 y152 y153 y154 y155 y156 y157 y158 y159 y160 y161 y162 y163 y164 y165 y166 y167 y168 y169 y170 y171 y172 y173 y174 y175 y176 y177 y178 y179 y180 y181 y182 y183 y184 y185 y186 y187 y188 y189 y190 y191 y192 y193 y194 y195 y196 y197 y198 y199 y200 y201 y202 y203 y204 y205 y206 y207 y208 y209 y210 y211 y212 y213 y214 y215 y216 y217 y218 y219 y220 y221 y222 y223 y224 y225 y226 y227 y228 y229 y230 y231 y232 y233 y234 y235 y236 y237 y238 y239 y240 y241 y242 y243 y244 y245 : Value) (w' : World) (tag' : Nat → Tag) (sv' : Nat → Value) (bl' : List UInt8 → Nat) (rv' : List UInt8 → Value), Rep F w' (q + 1) tag' sv' bl' rv' (pstep F.ab F.N s o).succ (pstep F.ab F.N s o).items → Calm wr w' tag tag' → K ⟨#[x0, x1, x2, .map (some F.M1), x4, x5, .pointer (some ⟨F.G, 0, none⟩), x7, x8, .map (some F.M2), x10, x11, .map (some F.M3), x13, y14, y15, y16, y17, y18, x19, y20, x21, x22, x23, x24, x25, x26, x27, x28, x29, x30, x31, x32, x33, x34, x35, x36, x37, x38, x39, x40, x41, x42, x43, x44, x45, x46, x47, x48, x49, x50, x51, x52, x53, x54, x55, x56, x57, x58, x59, x60, x61, x62, x63, x64, x65, x66, x67, x68, x69, x70, x71, x72, x73, x74, x75, x76, x77, x78, x79, x80, x81, x82, x83, x84, x85, x86, x87, x88, x89, x90, x91, x92, x93, x94, x95, x96, x97, x98, .slice (some ⟨b, 0, none⟩) len cap, x100, .int .i64 (q : Int), x102, y103, y104, y105, y106, y107, y108, y109, y110, y111, y112, y113, y114, y115, y116, y117, y118, y119, y120, y121, y122, y123, y124, y125, y126, y127, y128, y129, y130, y131, y132, y133, y134, y135, y136, y137, y138, y139, y140, y141, y142, y143, y144, y145, y146, y147, y148, y149, y150, y151, y152, y153, y154, y155, y156, y157, y158, y159, y160, y161, y162, y163, y164, y165, y166, y167, y168, y169, y170, y171, y172, y173, y174, y175, y176, y177, y178, y179, y180, y181, y182, y183, y184, y185, y186, y187, y188, y189, y190, y191, y192, y193, y194, y195, y196, y197, y198, y199, y200, y201, y202, y203, y204, y205, y206, y207, y208, y209, y210, y211, y212, y213, y214, y215, y216, y217, y218, y219, y220, y221, y222, y223, y224, y225, y226, y227, y228, y229, y230, y231, y232, y233, y234, y235, y236, y237, y238, y239, y240, y241, y242, y243, y244, y245, x246, x247], []⟩ w') :
    Code.wp Try.prog (.block 7 ((Try.f34.body.bind (findSeq 24)).getD .skip)) (Exit.then K Q) ⟨#[x0, x1, x2, .map (some F.M1), x4, x5, .pointer (some ⟨F.G, 0, none⟩), x7, x8, .map (some F.M2), x10, x11, .map (some F.M3), x13, x14, x15, x16, x17, x18, x19, x20, x21, x22, x23, x24, x25, x26, x27, x28, x29, x30, x31, x32, x33, x34, x35, x36, x37, x38, x39, x40, x41, x42, x43, x44, x45, x46, x47, x48, x49, x50, x51, x52, x53, x54, x55, x56, x57, x58, x59, x60, x61, x62, x63, x64, x65, x66, x67, x68, x69, x70, x71, x72, x73, x74, x75, x76, x77, x78, x79, x80, x81, x82, x83, x84, x85, x86, x87, x88, x89, x90, x91, x92, x93, x94, x95, x96, x97, x98, .slice (some ⟨b, 0, none⟩) len cap, x100, .int .i64 (q : Int), x102, x103, x104, x105, x106, x107, x108, x109, x110, x111, x112, x113, x114, x115, x116, x117, x118, x119, x120, x121, x122, x123, x124, x125, x126, x127, x128, x129, x130, x131, x132, x133, x134, x135, x136, x137, x138, x139, x140, x141, x142, x143, x144, x145, x146, x147, x148, x149, x150, x151, x152, x153, x154, x155, x156, x157, x158, x159, x160, x161, x162, x163, x164, x165, x166, x167, x168, x169, x170, x171, x172, x173, x174, x175, x176, x177, x178, x179, x180, x181, x182, x183, x184, x185, x186, x187, x188, x189, x190, x191, x192, x193, x194, x195, x196, x197, x198, x199, x200, x201, x202, x203, x204, x205, x206, x207, x208, x209, x210, x211, x212, x213, x214, x215, x216, x217, x218, x219, x220, x221, x222, x223, x224, x225, x226, x227, x228, x229, x230, x231, x232, x233, x234, x235, x236, x237, x238, x239, x240, x241, x242, x243, x244, x245, x246, x247], []⟩ wr := by
  refine wp_block ?_
  conv => arg 2; whnf
  refine wp_seq_k fun K1 hK1 => ?_
  have HK1 : Hid (∀ a w, Code.wp Try.prog _ _ a w → K1 a w) := hK1
  clear hK1
  have i1 : (q : Int) < (len : Int) := by omega
  obtain ⟨H, hH⟩ : ∃ H, wr.heap.size = H := ⟨_, rfl⟩
  have hHt : tag H = .no := Classical.byContradiction fun hne => by have := (hR.lt H hne).2; omega
  go_wp2
  have hRa := hR.alloc (.cells #[.int .u8 o.kind, .int .i64 o.txn, .string o.item] 55)
  have hrow : (wr.alloc (.cells #[.int .u8 o.kind, .int .i64 o.txn, .string o.item] 55)).rowIs H 55 3 (oF o) := by
    rw [← hH]
    exact World.rowIs_alloc wr #[.int .u8 o.kind, .int .i64 o.txn, .string o.item] 55 _ fun i hi => by
      match i, hi with
      | 0, _ => rfl
      | 1, _ => rfl
      | 2, _ => rfl
  have hCa : Calm wr (wr.alloc (.cells #[.int .u8 o.kind, .int .i64 o.txn, .string o.item] 55)) tag tag := ⟨rfl, rfl, rfl, by simp, fun b hb ht => ⟨Below.heap_alloc wr _ b hb, ht⟩⟩
  have hBa : F.B ≤ (wr.alloc (.cells #[.int .u8 o.kind, .int .i64 o.txn, .string o.item] 55)).heap.size := by simp; omega
  refine HK1.out _ _ ?_
  clear HK1 g0 g1 g2 hH
  obtain ⟨W, hW⟩ : ∃ W, wr.alloc (.cells #[.int .u8 o.kind, .int .i64 o.txn, .string o.item] 55) = W := ⟨_, rfl⟩
  rw [hW] at hRa hrow hCa hBa ⊢
  clear hW
  have k0 := hrow.cell (i := 0) (by omega)
  have k1 := hrow.cell (i := 1) (by omega)
  have k2 := hrow.cell (i := 2) (by omega)
  simp only [oF] at k0 k1 k2
  refine wp_seq_k fun K2 hK2 => ?_
  have HK2 : Hid (∀ a w, Code.wp Try.prog _ _ a w → K2 a w) := hK2
  clear hK2
  by_cases hsk : o.skips F.ab
  · have hps : pstep F.ab F.N s o = s := if_pos hsk
    rw [hps] at hK
    have hKs : ∀ (y14 y15 y16 y17 y18 y20 y103 y104 y105 y106 y107 y108 y109 y110 y111 y112 y113 y114 y115 y116 y117 y118 y119 y120 y121 y122 y123 y124 y125 y126 y127 y128 y129 y130 y131 y132 y133 y134 y135 y136 y137 y138 y139 y140 y141 y142 y143 y144 y145 y146 y147 y148 y149 y150 y151 y152 y153 y154 y155 y156 y157 y158 y159 y160 y161 y162 y163 y164 y165 y166 y167 y168 y169 y170 y171 y172 y173 y174 y175 y176 y177 y178 y179 y180 y181 y182 y183 y184 y185 y186 y187 y188 y189 y190 y191 y192 y193 y194 y195 y196 y197 y198 y199 y200 y201 y202 y203 y204 y205 y206 y207 y208 y209 y210 y211 y212 y213 y214 y215 y216 y217 y218 y219 y220 y221 y222 y223 y224 y225 y226 y227 y228 y229 y230 y231 y232 y233 y234 y235 y236 y237 y238 y239 y240 y241 y242 y243 y244 y245 : Value), K ⟨#[x0, x1, x2, .map (some F.M1), x4, x5, .pointer (some ⟨F.G, 0, none⟩), x7, x8, .map (some F.M2), x10, x11, .map (some F.M3), x13, y14, y15, y16, y17, y18, x19, y20, x21, x22, x23, x24, x25, x26, x27, x28, x29, x30, x31, x32, x33, x34, x35, x36, x37, x38, x39, x40, x41, x42, x43, x44, x45, x46, x47, x48, x49, x50, x51, x52, x53, x54, x55, x56, x57, x58, x59, x60, x61, x62, x63, x64, x65, x66, x67, x68, x69, x70, x71, x72, x73, x74, x75, x76, x77, x78, x79, x80, x81, x82, x83, x84, x85, x86, x87, x88, x89, x90, x91, x92, x93, x94, x95, x96, x97, x98, .slice (some ⟨b, 0, none⟩) len cap, x100, .int .i64 (q : Int), x102, y103, y104, y105, y106, y107, y108, y109, y110, y111, y112, y113, y114, y115, y116, y117, y118, y119, y120, y121, y122, y123, y124, y125, y126, y127, y128, y129, y130, y131, y132, y133, y134, y135, y136, y137, y138, y139, y140, y141, y142, y143, y144, y145, y146, y147, y148, y149, y150, y151, y152, y153, y154, y155, y156, y157, y158, y159, y160, y161, y162, y163, y164, y165, y166, y167, y168, y169, y170, y171, y172, y173, y174, y175, y176, y177, y178, y179, y180, y181, y182, y183, y184, y185, y186, y187, y188, y189, y190, y191, y192, y193, y194, y195, y196, y197, y198, y199, y200, y201, y202, y203, y204, y205, y206, y207, y208, y209, y210, y211, y212, y213, y214, y215, y216, y217, y218, y219, y220, y221, y222, y223, y224, y225, y226, y227, y228, y229, y230, y231, y232, y233, y234, y235, y236, y237, y238, y239, y240, y241, y242, y243, y244, y245, x246, x247], []⟩ W := fun y14 y15 y16 y17 y18 y20 y103 y104 y105 y106 y107 y108 y109 y110 y111 y112 y113 y114 y115 y116 y117 y118 y119 y120 y121 y122 y123 y124 y125 y126 y127 y128 y129 y130 y131 y132 y133 y134 y135 y136 y137 y138 y139 y140 y141 y142 y143 y144 y145 y146 y147 y148 y149 y150 y151 y152 y153 y154 y155 y156 y157 y158 y159 y160 y161 y162 y163 y164 y165 y166 y167 y168 y169 y170 y171 y172 y173 y174 y175 y176 y177 y178 y179 y180 y181 y182 y183 y184 y185 y186 y187 y188 y189 y190 y191 y192 y193 y194 y195 y196 y197 y198 y199 y200 y201 y202 y203 y204 y205 y206 y207 y208 y209 y210 y211 y212 y213 y214 y215 y216 y217 y218 y219 y220 y221 y222 y223 y224 y225 y226 y227 y228 y229 y230 y231 y232 y233 y234 y235 y236 y237 y238 y239 y240 y241 y242 y243 y244 y245 => hK y14 y15 y16 y17 y18 y20 y103 y104 y105 y106 y107 y108 y109 y110 y111 y112 y113 y114 y115 y116 y117 y118 y119 y120 y121 y122 y123 y124 y125 y126 y127 y128 y129 y130 y131 y132 y133 y134 y135 y136 y137 y138 y139 y140 y141 y142 y143 y144 y145 y146 y147 y148 y149 y150 y151 y152 y153 y154 y155 y156 y157 y158 y159 y160 y161 y162 y163 y164 y165 y166 y167 y168 y169 y170 y171 y172 y173 y174 y175 y176 y177 y178 y179 y180 y181 y182 y183 y184 y185 y186 y187 y188 y189 y190 y191 y192 y193 y194 y195 y196 y197 y198 y199 y200 y201 y202 y203 y204 y205 y206 y207 y208 y209 y210 y211 y212 y213 y214 y215 y216 y217 y218 y219 y220 y221 y222 y223 y224 y225 y226 y227 y228 y229 y230 y231 y232 y233 y234 y235 y236 y237 y238 y239 y240 y241 y242 y243 y244 y245 W tag sv bl rv (hRa.mono (by omega)) hCa
    clear hK hps
    cases hab : F.ab o.txn with
    | true =>
      go_wp2_with (first
        | (at_lookup; refine wpList_lookB _ rfl _ _ rfl F.M1 _ _ _ rfl hRa.m1 o.txn hw rfl ?_; rw [hab])
        | go_in)
      exact hKs _ _ _ _ _ _ _ _ _ _ _ _ _ _ _ _ _ _ _ _ _ _ _ _ _ _ _ _ _ _ _ _ _ _ _ _ _ _ _ _ _ _ _ _ _ _ _ _ _ _ _ _ _ _ _ _ _ _ _ _ _ _ _ _ _ _ _ _ _ _ _ _ _ _ _ _ _ _ _ _ _ _ _ _ _ _ _ _ _ _ _ _ _ _ _ _ _ _ _ _ _ _ _ _ _ _ _ _ _ _ _ _ _ _ _ _ _ _ _ _ _ _ _ _ _ _ _ _ _ _ _ _ _ _ _ _ _ _ _ _ _ _ _ _ _ _ _ _ _
    | false =>
      obtain ⟨n0, n1⟩ : o.kind ≠ 0 ∧ o.kind ≠ 1 := hsk.resolve_left (by rw [hab]; simp)
      have e0 : (o.kind != 0) = true := by simp [n0]
      have e1 : (o.kind != 1) = true := by simp [n1]
      go_wp2_with (first
        | (at_lookup; refine wpList_lookB _ rfl _ _ rfl F.M1 _ _ _ rfl hRa.m1 o.txn hw rfl ?_; rw [hab])
        | go_in)
      exact hKs _ _ _ _ _ _ _ _ _ _ _ _ _ _ _ _ _ _ _ _ _ _ _ _ _ _ _ _ _ _ _ _ _ _ _ _ _ _ _ _ _ _ _ _ _ _ _ _ _ _ _ _ _ _ _ _ _ _ _ _ _ _ _ _ _ _ _ _ _ _ _ _ _ _ _ _ _ _ _ _ _ _ _ _ _ _ _ _ _ _ _ _ _ _ _ _ _ _ _ _ _ _ _ _ _ _ _ _ _ _ _ _ _ _ _ _ _ _ _ _ _ _ _ _ _ _ _ _ _ _ _ _ _ _ _ _ _ _ _ _ _ _ _ _ _ _ _ _ _
  have hv := hN hsk
  have hab : F.ab o.txn = false := by
    cases h : F.ab o.txn with
    | false => rfl
    | true => exact absurd (Or.inl h) hsk
  have hkk : o.kind = 0 ∨ o.kind = 1 := by
    by_cases h0 : o.kind = 0
    · exact Or.inl h0
    · by_cases h1 : o.kind = 1
      · exact Or.inr h1
      · exact absurd (Or.inr ⟨h0, h1⟩) hsk
  have hpick : ((o.kind != 0) = false) ∨ ((o.kind != 0) = true ∧ (o.kind != 1) = false) := by
    rcases hkk with h | h
    · left; simp [h]
    · right; simp [h]
  obtain ⟨hf1, hf2, hf3, hf4⟩ := hF.acc o.key
  have HP : Hid (pstep F.ab F.N s o = if o.kind = 0 then ⟨addW s.succ (accOf s.items o.key).1 (F.N o.txn), setI s.items o.key ((accOf s.items o.key).1, addR (accOf s.items o.key).2 (F.N o.txn))⟩ else ⟨addAll (addW s.succ (accOf s.items o.key).1 (F.N o.txn)) (accOf s.items o.key).2 (F.N o.txn), setI s.items o.key ((F.N o.txn : Int), [])⟩) := if_neg hsk
  have hgo : ∀ y103 y104 y105 y106 y107 y108 y109 y110 y111 y112 y113 y114 y115 y116 y117 y118 : Value, K2 ⟨#[x0, x1, x2, .map (some F.M1), x4, x5, .pointer (some ⟨F.G, 0, none⟩), x7, x8, .map (some F.M2), x10, x11, .map (some F.M3), x13, .pointer (some ⟨H, 0, none⟩), x15, x16, x17, x18, x19, x20, x21, x22, x23, x24, x25, x26, x27, x28, x29, x30, x31, x32, x33, x34, x35, x36, x37, x38, x39, x40, x41, x42, x43, x44, x45, x46, x47, x48, x49, x50, x51, x52, x53, x54, x55, x56, x57, x58, x59, x60, x61, x62, x63, x64, x65, x66, x67, x68, x69, x70, x71, x72, x73, x74, x75, x76, x77, x78, x79, x80, x81, x82, x83, x84, x85, x86, x87, x88, x89, x90, x91, x92, x93, x94, x95, x96, x97, x98, .slice (some ⟨b, 0, none⟩) len cap, x100, .int .i64 (q : Int), x102, y103, y104, y105, y106, y107, y108, y109, y110, y111, y112, y113, y114, y115, y116, y117, y118, x119, x120, x121, x122, x123, x124, x125, x126, x127, x128, x129, x130, x131, x132, x133, x134, x135, x136, x137, x138, x139, x140, x141, x142, x143, x144, x145, x146, x147, x148, x149, x150, x151, x152, x153, x154, x155, x156, x157, x158, x159, x160, x161, x162, x163, x164, x165, x166, x167, x168, x169, x170, x171, x172, x173, x174, x175, x176, x177, x178, x179, x180, x181, x182, x183, x184, x185, x186, x187, x188, x189, x190, x191, x192, x193, x194, x195, x196, x197, x198, x199, x200, x201, x202, x203, x204, x205, x206, x207, x208, x209, x210, x211, x212, x213, x214, x215, x216, x217, x218, x219, x220, x221, x222, x223, x224, x225, x226, x227, x228, x229, x230, x231, x232, x233, x234, x235, x236, x237, x238, x239, x240, x241, x242, x243, x244, x245, x246, x247], []⟩ W := fun y103 y104 y105 y106 y107 y108 y109 y110 y111 y112 y113 y114 y115 y116 y117 y118 => by
    refine HK2.out _ _ ?_
    clear HK2
    refine wp_seq_k fun K3 hK3 => ?_
    have HK3 : Hid (∀ a w, Code.wp Try.prog _ _ a w → K3 a w) := hK3
    clear hK3
    go_wp2_with (first
      | (at_lookup; refine wpList_lookN _ rfl _ _ rfl F.M2 _ _ rfl hRa.m2 o.txn hw rfl ?_)
      | go_in)
    refine HK3.out _ _ ?_
    clear HK3
    refine wp_seq_k fun K4 hK4 => ?_
    have HK4 : Hid (∀ a w, Code.wp Try.prog _ _ a w → K4 a w) := hK4
    clear hK4
    obtain ⟨p16, h16⟩ : ∃ p16 : Value, p16 = match (s.items o.key).map fun _ => bl o.key with | some x => .pointer (some ⟨x, 0, none⟩) | none => .pointer none := ⟨_, rfl⟩
    obtain ⟨c17, h17⟩ : ∃ c17, (s.items o.key).isSome = c17 := ⟨_, rfl⟩
    have h17' : ((s.items o.key).map fun _ => bl o.key).isSome = c17 := by rw [← h17]; simp
    have H16 : Hid (p16 = match (s.items o.key).map fun _ => bl o.key with | some x => .pointer (some ⟨x, 0, none⟩) | none => .pointer none) := h16
    have H17 : Hid ((s.items o.key).isSome = c17) := h17
    have H17' : Hid (((s.items o.key).map fun _ => bl o.key).isSome = c17) := h17'
    clear h16 h17 h17'
    go_wp2_with (first
      | (at_lookup; refine wpList_lookP _ rfl _ _ rfl F.M3 _ _ rfl hRa.m3 o.item hsz rfl p16 c17 H16.out H17'.out ?_)
      | go_in)
    refine HK4.out _ _ ?_
    clear HK4
    refine wp_seq_k fun K5 hK5 => ?_
    refine piece28 F q tag sv bl rv s.succ s.items o H p16 c17 W K5 _ hRa (by omega) hBa hsz H16.out H17.out k2 ?_
    intro z130 z131 z132 z133 z134 z135 z136 z137 w1 tag1 bl1 rv1 hR1 hC1
    refine hK5 _ _ ?_
    clear hK5
    refine wp_seq_k fun K6 hK6 => ?_
    obtain ⟨p, hp⟩ : ∃ p, accOf s.items o.key = p := ⟨_, rfl⟩
    rw [hp] at hR1 hf1 hf2 hf3 hf4 HP
    have hI1 : setI s.items o.key p o.key = some p := if_pos rfl
    have hL1 : ∀ j, (s.succ j).length ≤ 8589934591 := fun j => by have := hF.len j; omega
    refine piece31 F (q + 1) tag1 sv bl1 rv1 s.succ _ o.key p (F.N o.txn) w1 K6 _ hR1 hI1 hf2 (fun j => by have := hL1 j; omega) ?_
    intro z138 z139 z140 z141 z142 z143 z144 z145 z146 z147 z148 z149 z150 z151 z152 z153 z154 z155 z156 z157 z158 z159 z160 z161 z162 z163 z164 z165 z166 z167 z168 z169 z170 z171 z172 w2 tag2 sv2 hR2 hC2
    refine hK6 _ _ ?_
    clear hK6
    refine wp_seq_k fun K7 hK7 => ?_
    have hC02 := (hCa.trans hC1).trans hC2
    have hrow2 := (hC1.trans hC2).row hrow hHt
    have m0 := hrow2.cell (i := 0) (by omega)
    simp only [oF] at m0
    by_cases h0 : o.kind = 0
    · rw [h0] at m0
      refine piece33 F (q + 1) tag2 sv2 bl1 rv1 _ _ o.key p (F.N o.txn) H w2 K7 _ hR2 hI1 (by omega) m0 ?_
      intro z18 z173 z174 z175 z176 z177 z178 z179 z180 z181 z182 z183 z184 z185 z186 z187 z188 z189 z190 z191 z192 z193 z194 z195 z196 z197 z198 z199 z200 z201 z202 z203 z204 w3 tag3 rv3 hR3 hC3
      rw [setI_twice] at hR3
      have e := HP.out
      rw [if_pos h0] at e
      rw [e] at hK
      exact hK _ _ _ _ _ _ _ _ _ _ _ _ _ _ _ _ _ _ _ _ _ _ _ _ _ _ _ _ _ _ _ _ _ _ _ _ _ _ _ _ _ _ _ _ _ _ _ _ _ _ _ _ _ _ _ _ _ _ _ _ _ _ _ _ _ _ _ _ _ _ _ _ _ _ _ _ _ _ _ _ _ _ _ _ _ _ _ _ _ _ _ _ _ _ _ _ _ _ _ _ _ _ _ _ _ _ _ _ _ _ _ _ _ _ _ _ _ _ _ _ _ _ _ _ _ _ _ _ _ _ _ _ _ _ _ _ _ _ _ _ _ _ _ _ _ _ _ _ _ w3 tag3 sv2 bl1 rv3 hR3 (hC02.trans hC3)
    · have HK7 : Hid (∀ a w, Code.wp Try.prog _ _ a w → K7 a w) := hK7
      clear hK7
      have e0 : (o.kind == 0) = false := by simp [h0]
      go_wp2
      refine HK7.out _ _ ?_
      clear HK7
      refine wp_seq_k fun K8 hK8 => ?_
      refine piece37 F (q + 1) tag2 sv2 bl1 rv1 _ _ o.key p (F.N o.txn) w2 K8 _ hR2 hI1 (by omega) hf4 (fun j => by have := addW_len s.succ p.1 (F.N o.txn) j; have := hL1 j; omega) ?_
      intro z20 z205 z206 z207 z208 z209 z210 z211 z212 z213 z214 z215 z216 z217 z218 z219 z220 z221 z222 z223 z224 z225 z226 z227 z228 z229 z230 z231 z232 z233 w3 tag3 sv3 hR3 hC3
      refine hK8 _ _ ?_
      clear hK8
      refine piece43 F (q + 1) tag3 sv3 bl1 rv1 _ _ o.key p (F.N o.txn) w3 _ hR3 hI1 ?_
      intro z234 z235 z236 z237 z238 z239 z240 z241 z242 z243 z244 z245 w4 rv4 hR4 hC4
      rw [setI_twice] at hR4
      have e := HP.out
      rw [if_neg h0] at e
      rw [e] at hK
      exact hK _ _ _ _ _ _ _ _ _ _ _ _ _ _ _ _ _ _ _ _ _ _ _ _ _ _ _ _ _ _ _ _ _ _ _ _ _ _ _ _ _ _ _ _ _ _ _ _ _ _ _ _ _ _ _ _ _ _ _ _ _ _ _ _ _ _ _ _ _ _ _ _ _ _ _ _ _ _ _ _ _ _ _ _ _ _ _ _ _ _ _ _ _ _ _ _ _ _ _ _ _ _ _ _ _ _ _ _ _ _ _ _ _ _ _ _ _ _ _ _ _ _ _ _ _ _ _ _ _ _ _ _ _ _ _ _ _ _ _ _ _ _ _ _ _ _ _ _ _ w4 tag3 sv3 bl1 rv4 hR4 ((hC02.trans hC3).trans hC4)
  clear hK
  rcases hpick with e0 | ⟨e0, e1⟩
  · go_wp2_with (first
      | (at_lookup; refine wpList_lookB _ rfl _ _ rfl F.M1 _ _ _ rfl hRa.m1 o.txn hw rfl ?_; rw [hab])
      | go_in)
    exact hgo _ _ _ _ _ _ _ _ _ _ _ _ _ _ _ _
  · go_wp2_with (first
      | (at_lookup; refine wpList_lookB _ rfl _ _ rfl F.M1 _ _ _ rfl hRa.m1 o.txn hw rfl ?_; rw [hab])
      | go_in)
    exact hgo _ _ _ _ _ _ _ _ _ _ _ _ _ _ _ _
end Go.Proofs.Qxb6601382a
