/- A piece of buildPrecedence's fourth loop: the item's record, made where there is none. -/
import Derived.Test.Qxb6601382aCalm
namespace Go.Proofs.Qxb6601382a
open Go.RowKit

theorem setI_self {I : Items} {k : List UInt8} {p : Int × List Int} (h : I k = some p) : setI I k (accOf I k) = I := by
  funext x
  unfold setI accOf
  by_cases e : x = k
  · subst e; simp [h]
  · simp [e]

set_option maxRecDepth 100000 in
set_option maxHeartbeats 2000000 in
theorem piece28 {x0 x1 x2 x3 x4 x5 x6 x7 x8 x9 x10 x11 x13 x15 x18 x19 x20 x21 x22 x23 x24 x25 x26 x27 x28 x29 x30 x31 x32 x33 x34 x35 x36 x37 x38 x39 x40 x41 x42 x43 x44 x45 x46 x47 x48 x49 x50 x51 x52 x53 x54 x55 x56 x57 x58 x59 x60 x61 x62 x63 x64 x65 x66 x67 x68 x69 x70 x71 x72 x73 x74 x75 x76 x77 x78 x79 x80 x81 x82 x83 x84 x85 x86 x87 x88 x89 x90 x91 x92 x93 x94 x95 x96 x97 x98 x99 x100 x101 x102 x103 x104 x105 x106 x107 x108 x109 x110 x111 x112 x113 x114 x115 x116 x117 x118 x119 x120 x121 x122 x123 x124 x125 x126 x127 x128 x129 x130 x131 x132 x133 x134 x135 x136 x137 x138 x139 x140 x141 x142 x143 x144 x145 x146 x147 x148 x149 x150 x151 x152 x153 x154 x155 x156 x157 x158 x159 x160 x161 x162 x163 x164 x165 x166 x167 x168 x169 x170 x171 x172 x173 x174 x175 x176 x177 x178 x179 x180 x181 x182 x183 x184 x185 x186 x187 x188 x189 x190 x191 x192 x193 x194 x195 x196 x197 x198 x199 x200 x201 x202 x203 x204 x205 x206 x207 x208 x209 x210 x211 x212 x213 x214 x215 x216 x217 x218 x219 x220 x221 x222 x223 x224 x225 x226 x227 x228 x229 x230 x231 x232 x233 x234 x235 x236 x237 x238 x239 x240 x241 x242 x243 x244 x245 x246 x247 : Value} (F : Fix) (c : Nat) (tag : Nat → Tag) (sv : Nat → Value) (bl : List UInt8 → Nat) (rv : List UInt8 → Value) (L : Nat → List Int) (I : Items) (o : POp) (H : Nat) (p16 : Value) (c17 : Bool) (wr : World) (K : Act → World → Prop) (Q : Exit → Act → World → Prop)
    (hR : Rep F wr c tag sv bl rv L I) (hc : c ≤ 65536) (hB : F.B ≤ wr.heap.size) (hs : o.item.size ≤ maxLen) (h16 : p16 = match (I o.key).map fun _ => bl o.key with | some x => .pointer (some ⟨x, 0, none⟩) | none => .pointer none) (h17 : (I o.key).isSome = c17)
    (hH : wr.cell? ⟨H, 2, none⟩ = some (.string o.item))
    (hK : ∀ (y130 y131 y132 y133 y134 y135 y136 y137 : Value) (w' : World) (tag' : Nat → Tag) (bl' : List UInt8 → Nat) (rv' : List UInt8 → Value), Rep F w' (c + 1) tag' sv bl' rv' L (setI I o.key (accOf I o.key)) → Calm wr w' tag tag' → K ⟨#[x0, x1, x2, x3, x4, x5, x6, x7, x8, x9, x10, x11, .map (some F.M3), x13, .pointer (some ⟨H, 0, none⟩), x15, .pointer (some ⟨bl' o.key, 0, none⟩), .bool c17, x18, x19, x20, x21, x22, x23, x24, x25, x26, x27, x28, x29, x30, x31, x32, x33, x34, x35, x36, x37, x38, x39, x40, x41, x42, x43, x44, x45, x46, x47, x48, x49, x50, x51, x52, x53, x54, x55, x56, x57, x58, x59, x60, x61, x62, x63, x64, x65, x66, x67, x68, x69, x70, x71, x72, x73, x74, x75, x76, x77, x78, x79, x80, x81, x82, x83, x84, x85, x86, x87, x88, x89, x90, x91, x92, x93, x94, x95, x96, x97, x98, x99, x100, x101, x102, x103, x104, x105, x106, x107, x108, x109, x110, x111, x112, x113, x114, x115, x116, x117, x118, x119, x120, x121, x122, x123, x124, x125, x126, x127, x128, x129, y130, y131, y132, y133, y134, y135, y136, y137, x138, x139, x140, x141, x142, x143, x144, x145, x146, x147, x148, x149, x150, x151, x152, x153, x154, x155, x156, x157, x158, x159, x160, x161, x162, x163, x164, x165, x166, x167, x168, x169, x170, x171, x172, x173, x174, x175, x176, x177, x178, x179, x180, x181, x182, x183, x184, x185, x186, x187, x188, x189, x190, x191, x192, x193, x194, x195, x196, x197, x198, x199, x200, x201, x202, x203, x204, x205, x206, x207, x208, x209, x210, x211, x212, x213, x214, x215, x216, x217, x218, x219, x220, x221, x222, x223, x224, x225, x226, x227, x228, x229, x230, x231, x232, x233, x234, x235, x236, x237, x238, x239, x240, x241, x242, x243, x244, x245, x246, x247], []⟩ w') :
    Code.wp Try.prog ((Try.f34.body.bind (findSeq 28)).getD .skip) (Exit.then K Q) ⟨#[x0, x1, x2, x3, x4, x5, x6, x7, x8, x9, x10, x11, .map (some F.M3), x13, .pointer (some ⟨H, 0, none⟩), x15, p16, .bool c17, x18, x19, x20, x21, x22, x23, x24, x25, x26, x27, x28, x29, x30, x31, x32, x33, x34, x35, x36, x37, x38, x39, x40, x41, x42, x43, x44, x45, x46, x47, x48, x49, x50, x51, x52, x53, x54, x55, x56, x57, x58, x59, x60, x61, x62, x63, x64, x65, x66, x67, x68, x69, x70, x71, x72, x73, x74, x75, x76, x77, x78, x79, x80, x81, x82, x83, x84, x85, x86, x87, x88, x89, x90, x91, x92, x93, x94, x95, x96, x97, x98, x99, x100, x101, x102, x103, x104, x105, x106, x107, x108, x109, x110, x111, x112, x113, x114, x115, x116, x117, x118, x119, x120, x121, x122, x123, x124, x125, x126, x127, x128, x129, x130, x131, x132, x133, x134, x135, x136, x137, x138, x139, x140, x141, x142, x143, x144, x145, x146, x147, x148, x149, x150, x151, x152, x153, x154, x155, x156, x157, x158, x159, x160, x161, x162, x163, x164, x165, x166, x167, x168, x169, x170, x171, x172, x173, x174, x175, x176, x177, x178, x179, x180, x181, x182, x183, x184, x185, x186, x187, x188, x189, x190, x191, x192, x193, x194, x195, x196, x197, x198, x199, x200, x201, x202, x203, x204, x205, x206, x207, x208, x209, x210, x211, x212, x213, x214, x215, x216, x217, x218, x219, x220, x221, x222, x223, x224, x225, x226, x227, x228, x229, x230, x231, x232, x233, x234, x235, x236, x237, x238, x239, x240, x241, x242, x243, x244, x245, x246, x247], []⟩ wr := by
  conv => arg 2; whnf
  cases hI : I o.key with
  | some p =>
    rw [hI] at h16 h17
    simp at h16 h17
    subst h16 h17
    have hK2 : ∀ (y130 y131 y132 y133 y134 y135 y136 y137 : Value), K ⟨#[x0, x1, x2, x3, x4, x5, x6, x7, x8, x9, x10, x11, .map (some F.M3), x13, .pointer (some ⟨H, 0, none⟩), x15, .pointer (some ⟨bl o.key, 0, none⟩), .bool true, x18, x19, x20, x21, x22, x23, x24, x25, x26, x27, x28, x29, x30, x31, x32, x33, x34, x35, x36, x37, x38, x39, x40, x41, x42, x43, x44, x45, x46, x47, x48, x49, x50, x51, x52, x53, x54, x55, x56, x57, x58, x59, x60, x61, x62, x63, x64, x65, x66, x67, x68, x69, x70, x71, x72, x73, x74, x75, x76, x77, x78, x79, x80, x81, x82, x83, x84, x85, x86, x87, x88, x89, x90, x91, x92, x93, x94, x95, x96, x97, x98, x99, x100, x101, x102, x103, x104, x105, x106, x107, x108, x109, x110, x111, x112, x113, x114, x115, x116, x117, x118, x119, x120, x121, x122, x123, x124, x125, x126, x127, x128, x129, y130, y131, y132, y133, y134, y135, y136, y137, x138, x139, x140, x141, x142, x143, x144, x145, x146, x147, x148, x149, x150, x151, x152, x153, x154, x155, x156, x157, x158, x159, x160, x161, x162, x163, x164, x165, x166, x167, x168, x169, x170, x171, x172, x173, x174, x175, x176, x177, x178, x179, x180, x181, x182, x183, x184, x185, x186, x187, x188, x189, x190, x191, x192, x193, x194, x195, x196, x197, x198, x199, x200, x201, x202, x203, x204, x205, x206, x207, x208, x209, x210, x211, x212, x213, x214, x215, x216, x217, x218, x219, x220, x221, x222, x223, x224, x225, x226, x227, x228, x229, x230, x231, x232, x233, x234, x235, x236, x237, x238, x239, x240, x241, x242, x243, x244, x245, x246, x247], []⟩ wr := fun y130 y131 y132 y133 y134 y135 y136 y137 => hK y130 y131 y132 y133 y134 y135 y136 y137 wr tag bl rv (by rw [setI_self hI]; exact hR.mono (by omega)) (Calm.refl _ _)
    clear hK
    go_wp2
    exact hK2 _ _ _ _ _ _ _ _
  | none =>
    rw [hI] at h16 h17
    simp at h16 h17
    subst h16 h17
    have hlt : H < wr.heap.size := World.block_lt_of_cell? wr _ hH
    have hHn : ¬ H = wr.heap.size := by omega
    have hHn2 : ¬ wr.heap.size = H := by omega
    have hH2 := fun ob : Obj => (World.cell?_of_block (a := ⟨H, 2, none⟩) (Below.heap_alloc wr ob H hlt)).trans hH
    have hma := fun ob : Obj => (hR.alloc ob).m3
    have hmx : c < maxLen := by unfold maxLen; omega
    go_wp2_with (first
      | (at_mapUpdate; refine wpList_putP _ rfl _ _ _ rfl F.M3 c _ rfl (hma _) hmx o.item hs wr.heap.size rfl rfl ?_; intro w1 hm1 hg1)
      | go_in)
    have eb : updK bl o.key wr.heap.size o.key = wr.heap.size := if_pos rfl
    have ea : accOf I o.key = (-1, []) := by simp [accOf, hI]
    have hg0 := World.grownBy_alloc wr (.cells #[.int .i64 (-1), .slice none 0 0] 66) none
    have hM3 := (hR.lt F.M3 (by rw [hR.tm3]; simp)).2
    have hz : (wr.alloc (.cells #[.int .i64 (-1), .slice none 0 0] 66)).heap.size = wr.heap.size + 1 := by simp
    have hs1 := hg1.size
    rw [hz] at hs1
    have hrow : w1.rowIs wr.heap.size 66 2 (aF (-1) (.slice none 0 0)) := by
      refine (World.rowIs_alloc wr #[.int .i64 (-1), .slice none 0 0] 66 (aF (-1) (.slice none 0 0)) fun i hi => ?_).of_block (hg1.block _ (by rw [hz]; omega) (by simp; omega))
      match i, hi with
      | 0, _ => rfl
      | 1, _ => rfl
    have hKe : Keeps wr w1 tag tag fun u => u = .m3 := fun b hb hne => ⟨(hg1.block b (by rw [hz]; have := (hR.lt b hb).2; omega) (fun e => hne (by simp at e; rw [e]; exact hR.tm3))).trans (hg0.block b (hR.lt b hb).2 (by simp)), rfl⟩
    have f1 := hR.newAcc (k := o.key) (p' := (-1, [])) (w2 := w1) (c := c + 1) (H := wr.heap.size) (rv' := .slice none 0 0) hI (Nat.le_refl _) (by omega) (by omega) hB hKe hm1 hrow (World.ownsRow_nil _ _ _ _) rfl
    have f2 : Calm wr w1 tag (updT tag wr.heap.size (.acc o.key)) := ⟨hg1.os.trans hg0.os, hg1.tape.trans hg0.tape, hg1.output.trans hg0.output, by omega, fun b hb ht => ⟨(hg1.block b (by rw [hz]; omega) (fun e => by simp at e; rw [e, hR.tm3] at ht; cases ht)).trans (hg0.block b hb (by simp)), by
      have : b ≠ wr.heap.size := by omega
      simp [updT, this, ht]⟩⟩
    rw [← ea] at f1
    have hK2 : ∀ (y130 y131 y132 y133 y134 y135 y136 y137 : Value), K ⟨#[x0, x1, x2, x3, x4, x5, x6, x7, x8, x9, x10, x11, .map (some F.M3), x13, .pointer (some ⟨H, 0, none⟩), x15, .pointer (some ⟨wr.heap.size, 0, none⟩), .bool false, x18, x19, x20, x21, x22, x23, x24, x25, x26, x27, x28, x29, x30, x31, x32, x33, x34, x35, x36, x37, x38, x39, x40, x41, x42, x43, x44, x45, x46, x47, x48, x49, x50, x51, x52, x53, x54, x55, x56, x57, x58, x59, x60, x61, x62, x63, x64, x65, x66, x67, x68, x69, x70, x71, x72, x73, x74, x75, x76, x77, x78, x79, x80, x81, x82, x83, x84, x85, x86, x87, x88, x89, x90, x91, x92, x93, x94, x95, x96, x97, x98, x99, x100, x101, x102, x103, x104, x105, x106, x107, x108, x109, x110, x111, x112, x113, x114, x115, x116, x117, x118, x119, x120, x121, x122, x123, x124, x125, x126, x127, x128, x129, y130, y131, y132, y133, y134, y135, y136, y137, x138, x139, x140, x141, x142, x143, x144, x145, x146, x147, x148, x149, x150, x151, x152, x153, x154, x155, x156, x157, x158, x159, x160, x161, x162, x163, x164, x165, x166, x167, x168, x169, x170, x171, x172, x173, x174, x175, x176, x177, x178, x179, x180, x181, x182, x183, x184, x185, x186, x187, x188, x189, x190, x191, x192, x193, x194, x195, x196, x197, x198, x199, x200, x201, x202, x203, x204, x205, x206, x207, x208, x209, x210, x211, x212, x213, x214, x215, x216, x217, x218, x219, x220, x221, x222, x223, x224, x225, x226, x227, x228, x229, x230, x231, x232, x233, x234, x235, x236, x237, x238, x239, x240, x241, x242, x243, x244, x245, x246, x247], []⟩ w1 := fun y130 y131 y132 y133 y134 y135 y136 y137 => by
      have := hK y130 y131 y132 y133 y134 y135 y136 y137 w1 _ _ _ f1 f2
      rwa [eb] at this
    exact hK2 _ _ _ _ _ _ _ _
end Go.Proofs.Qxb6601382a
