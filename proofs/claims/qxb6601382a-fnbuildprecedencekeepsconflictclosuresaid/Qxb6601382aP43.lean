/- A piece of buildPrecedence's fourth loop: the readers are struck, the writer is noted. -/
import Derived.Test.Qxb6601382aCalm
namespace Go.Proofs.Qxb6601382a
open Go.RowKit

theorem own_len (a : Option Addr) (n m c d : Nat) : (Value.slice a n c).ownBlock = (Value.slice a m d).ownBlock := by cases a <;> rfl
theorem OwnI.cut0 {w : World} {B n c : Nat} {a : Option Addr} {l : List Int} (h : OwnI w B (.slice a n c) l) : OwnI w B (.slice a 0 c) [] := by
  refine ⟨rfl, ?_⟩
  rcases h.2 with ⟨h1, _⟩ | ⟨g, cap, cur, h1, hb, hg, h2, h3, h4, h5⟩
  · simp only [Value.slice.injEq] at h1
    obtain ⟨rfl, -, rfl⟩ := h1
    exact .inl ⟨rfl, rfl⟩
  · simp only [Value.slice.injEq] at h1
    obtain ⟨rfl, -, rfl⟩ := h1
    exact .inr ⟨g, c, cur, rfl, hb, hg, Nat.zero_le _, h3, h4, by simp [ints]⟩

set_option maxRecDepth 100000 in
set_option maxHeartbeats 4000000 in
theorem piece43 {x0 x1 x2 x3 x4 x5 x6 x7 x8 x9 x10 x11 x12 x13 x14 x17 x18 x19 x20 x21 x22 x23 x24 x25 x26 x27 x28 x29 x30 x31 x32 x33 x34 x35 x36 x37 x38 x39 x40 x41 x42 x43 x44 x45 x46 x47 x48 x49 x50 x51 x52 x53 x54 x55 x56 x57 x58 x59 x60 x61 x62 x63 x64 x65 x66 x67 x68 x69 x70 x71 x72 x73 x74 x75 x76 x77 x78 x79 x80 x81 x82 x83 x84 x85 x86 x87 x88 x89 x90 x91 x92 x93 x94 x95 x96 x97 x98 x99 x100 x101 x102 x103 x104 x105 x106 x107 x108 x109 x110 x111 x112 x113 x114 x115 x116 x117 x118 x119 x120 x121 x122 x123 x124 x125 x126 x127 x128 x129 x130 x131 x132 x133 x134 x135 x136 x137 x138 x139 x140 x141 x142 x143 x144 x145 x146 x147 x148 x149 x150 x151 x152 x153 x154 x155 x156 x157 x158 x159 x160 x161 x162 x163 x164 x165 x166 x167 x168 x169 x170 x171 x172 x173 x174 x175 x176 x177 x178 x179 x180 x181 x182 x183 x184 x185 x186 x187 x188 x189 x190 x191 x192 x193 x194 x195 x196 x197 x198 x199 x200 x201 x202 x203 x204 x205 x206 x207 x208 x209 x210 x211 x212 x213 x214 x215 x216 x217 x218 x219 x220 x221 x222 x223 x224 x225 x226 x227 x228 x229 x230 x231 x232 x233 x234 x235 x236 x237 x238 x239 x240 x241 x242 x243 x244 x245 x246 x247 : Value} (F : Fix) (c : Nat) (tag : Nat → Tag) (sv : Nat → Value) (bl : List UInt8 → Nat) (rv : List UInt8 → Value) (L : Nat → List Int) (I : Items) (key : List UInt8) (p : Int × List Int) (v : Nat) (wr : World) (Q : Exit → Act → World → Prop)
    (hR : Rep F wr c tag sv bl rv L I) (hI : I key = some p)
    (hQ : ∀ (y234 y235 y236 y237 y238 y239 y240 y241 y242 y243 y244 y245 : Value) (w' : World) (rv' : List UInt8 → Value), Rep F w' c tag sv bl rv' L (setI I key ((v : Int), [])) → Calm wr w' tag tag → Q .normal ⟨#[x0, x1, x2, x3, x4, x5, x6, x7, x8, x9, x10, x11, x12, x13, x14, .int .i64 (v : Int), .pointer (some ⟨bl key, 0, none⟩), x17, x18, x19, x20, x21, x22, x23, x24, x25, x26, x27, x28, x29, x30, x31, x32, x33, x34, x35, x36, x37, x38, x39, x40, x41, x42, x43, x44, x45, x46, x47, x48, x49, x50, x51, x52, x53, x54, x55, x56, x57, x58, x59, x60, x61, x62, x63, x64, x65, x66, x67, x68, x69, x70, x71, x72, x73, x74, x75, x76, x77, x78, x79, x80, x81, x82, x83, x84, x85, x86, x87, x88, x89, x90, x91, x92, x93, x94, x95, x96, x97, x98, x99, x100, x101, x102, x103, x104, x105, x106, x107, x108, x109, x110, x111, x112, x113, x114, x115, x116, x117, x118, x119, x120, x121, x122, x123, x124, x125, x126, x127, x128, x129, x130, x131, x132, x133, x134, x135, x136, x137, x138, x139, x140, x141, x142, x143, x144, x145, x146, x147, x148, x149, x150, x151, x152, x153, x154, x155, x156, x157, x158, x159, x160, x161, x162, x163, x164, x165, x166, x167, x168, x169, x170, x171, x172, x173, x174, x175, x176, x177, x178, x179, x180, x181, x182, x183, x184, x185, x186, x187, x188, x189, x190, x191, x192, x193, x194, x195, x196, x197, x198, x199, x200, x201, x202, x203, x204, x205, x206, x207, x208, x209, x210, x211, x212, x213, x214, x215, x216, x217, x218, x219, x220, x221, x222, x223, x224, x225, x226, x227, x228, x229, x230, x231, x232, x233, y234, y235, y236, y237, y238, y239, y240, y241, y242, y243, y244, y245, x246, x247], []⟩ w') :
    Code.wp Try.prog ((Try.f34.body.bind (findSeq 43)).getD .skip) Q ⟨#[x0, x1, x2, x3, x4, x5, x6, x7, x8, x9, x10, x11, x12, x13, x14, .int .i64 (v : Int), .pointer (some ⟨bl key, 0, none⟩), x17, x18, x19, x20, x21, x22, x23, x24, x25, x26, x27, x28, x29, x30, x31, x32, x33, x34, x35, x36, x37, x38, x39, x40, x41, x42, x43, x44, x45, x46, x47, x48, x49, x50, x51, x52, x53, x54, x55, x56, x57, x58, x59, x60, x61, x62, x63, x64, x65, x66, x67, x68, x69, x70, x71, x72, x73, x74, x75, x76, x77, x78, x79, x80, x81, x82, x83, x84, x85, x86, x87, x88, x89, x90, x91, x92, x93, x94, x95, x96, x97, x98, x99, x100, x101, x102, x103, x104, x105, x106, x107, x108, x109, x110, x111, x112, x113, x114, x115, x116, x117, x118, x119, x120, x121, x122, x123, x124, x125, x126, x127, x128, x129, x130, x131, x132, x133, x134, x135, x136, x137, x138, x139, x140, x141, x142, x143, x144, x145, x146, x147, x148, x149, x150, x151, x152, x153, x154, x155, x156, x157, x158, x159, x160, x161, x162, x163, x164, x165, x166, x167, x168, x169, x170, x171, x172, x173, x174, x175, x176, x177, x178, x179, x180, x181, x182, x183, x184, x185, x186, x187, x188, x189, x190, x191, x192, x193, x194, x195, x196, x197, x198, x199, x200, x201, x202, x203, x204, x205, x206, x207, x208, x209, x210, x211, x212, x213, x214, x215, x216, x217, x218, x219, x220, x221, x222, x223, x224, x225, x226, x227, x228, x229, x230, x231, x232, x233, x234, x235, x236, x237, x238, x239, x240, x241, x242, x243, x244, x245, x246, x247], []⟩ wr := by
  conv => arg 2; whnf
  obtain ⟨a1, a2, a3, a4⟩ := hR.acc key p hI
  obtain ⟨ra, rc, hrv⟩ := a3.form
  obtain ⟨n, hn⟩ : ∃ n, p.2.length = n := ⟨_, rfl⟩
  rw [hn] at hrv
  have cA := a1.cell (i := 1) (by omega)
  simp only [aF] at cA
  rw [hrv] at cA
  have fA := a1.frozen 1
  have r1 := a1.set 1 (.slice ra 0 rc)
  have c0 := r1.cell (i := 0) (by omega)
  simp [aF] at c0
  have f0 := r1.frozen 0
  have i0 : (0 : Int) ≤ (rc : Int) := by omega
  have f1 : Rep F ((wr.setCell ⟨bl key, 1, none⟩ (.slice ra 0 rc)).setCell ⟨bl key, 0, none⟩ (.int .i64 (v : Int))) c tag sv bl (updK rv key (.slice ra 0 rc)) L (setI I key ((v : Int), [])) := by
    have hg1 := grown_set wr ⟨bl key, 1, none⟩ (.slice ra 0 rc)
    have hg2 := grown_set (wr.setCell ⟨bl key, 1, none⟩ (.slice ra 0 rc)) ⟨bl key, 0, none⟩ (.int .i64 (v : Int))
    have hb : ∀ b, b < wr.heap.size → b ≠ bl key → ((wr.setCell ⟨bl key, 1, none⟩ (.slice ra 0 rc)).setCell ⟨bl key, 0, none⟩ (.int .i64 (v : Int))).heap[b]? = wr.heap[b]? := fun b hb hne => (hg2.block b (by simp; omega) (by simpa using hne)).trans (hg1.block b hb (by simpa using hne))
    rw [hrv] at a3
    refine hR.putAcc (p := p) (p' := ((v : Int), [])) hI (fun b hb' hC => ⟨hb b (hR.lt b hb').2 fun e => hC (.inl (by rw [e]; exact a2)), rfl⟩) (fun b hb' => ⟨(hR.lt b hb').1, by simp; exact (hR.lt b hb').2⟩) ?_ a2 ?_ ?_
    · refine (r1.set 0 _).congr fun j hj => ?_
      match j, hj with
      | 0, _ => rfl
      | 1, _ => rfl
    · refine a3.cut0.of_block fun b hb' => hb b ?_ ?_
      · have := (hR.lt b (by rw [a4 b (by rw [hrv]; exact (own_len ra n 0 rc rc).trans hb')]; simp)).2; exact this
      · intro e
        have := a4 b (by rw [hrv]; exact (own_len ra n 0 rc rc).trans hb')
        rw [e, a2] at this; cases this
    · intro b hb'
      exact a4 b (by rw [hrv]; exact (own_len ra n 0 rc rc).trans hb')
  have f2 : Calm wr ((wr.setCell ⟨bl key, 1, none⟩ (.slice ra 0 rc)).setCell ⟨bl key, 0, none⟩ (.int .i64 (v : Int))) tag tag := by
    have hg1 := grown_set wr ⟨bl key, 1, none⟩ (.slice ra 0 rc)
    have hg2 := grown_set (wr.setCell ⟨bl key, 1, none⟩ (.slice ra 0 rc)) ⟨bl key, 0, none⟩ (.int .i64 (v : Int))
    refine ⟨hg2.os.trans hg1.os, hg2.tape.trans hg1.tape, hg2.output.trans hg1.output, by simp, fun b hb ht => ⟨?_, ht⟩⟩
    have hne : b ≠ bl key := fun e => by rw [e, a2] at ht; cases ht
    exact (hg2.block b (by simp; omega) (by simpa using hne)).trans (hg1.block b hb (by simpa using hne))
  have hQ2 : ∀ (y234 y235 y236 y237 y238 y239 y240 y241 y242 y243 y244 y245 : Value), Q .normal ⟨#[x0, x1, x2, x3, x4, x5, x6, x7, x8, x9, x10, x11, x12, x13, x14, .int .i64 (v : Int), .pointer (some ⟨bl key, 0, none⟩), x17, x18, x19, x20, x21, x22, x23, x24, x25, x26, x27, x28, x29, x30, x31, x32, x33, x34, x35, x36, x37, x38, x39, x40, x41, x42, x43, x44, x45, x46, x47, x48, x49, x50, x51, x52, x53, x54, x55, x56, x57, x58, x59, x60, x61, x62, x63, x64, x65, x66, x67, x68, x69, x70, x71, x72, x73, x74, x75, x76, x77, x78, x79, x80, x81, x82, x83, x84, x85, x86, x87, x88, x89, x90, x91, x92, x93, x94, x95, x96, x97, x98, x99, x100, x101, x102, x103, x104, x105, x106, x107, x108, x109, x110, x111, x112, x113, x114, x115, x116, x117, x118, x119, x120, x121, x122, x123, x124, x125, x126, x127, x128, x129, x130, x131, x132, x133, x134, x135, x136, x137, x138, x139, x140, x141, x142, x143, x144, x145, x146, x147, x148, x149, x150, x151, x152, x153, x154, x155, x156, x157, x158, x159, x160, x161, x162, x163, x164, x165, x166, x167, x168, x169, x170, x171, x172, x173, x174, x175, x176, x177, x178, x179, x180, x181, x182, x183, x184, x185, x186, x187, x188, x189, x190, x191, x192, x193, x194, x195, x196, x197, x198, x199, x200, x201, x202, x203, x204, x205, x206, x207, x208, x209, x210, x211, x212, x213, x214, x215, x216, x217, x218, x219, x220, x221, x222, x223, x224, x225, x226, x227, x228, x229, x230, x231, x232, x233, y234, y235, y236, y237, y238, y239, y240, y241, y242, y243, y244, y245, x246, x247], []⟩ ((wr.setCell ⟨bl key, 1, none⟩ (.slice ra 0 rc)).setCell ⟨bl key, 0, none⟩ (.int .i64 (v : Int))) := fun y234 y235 y236 y237 y238 y239 y240 y241 y242 y243 y244 y245 => hQ y234 y235 y236 y237 y238 y239 y240 y241 y242 y243 y244 y245 _ _ f1 f2
  clear hQ f1 f2 r1 a1 a3 a4 hn
  go_wp2
  exact hQ2 _ _ _ _ _ _ _ _ _ _ _ _
end Go.Proofs.Qxb6601382a
