/-
  Contracts of the three functions that every Incarnation law goes through: (*front).take (46), (*incarnation).take (43), ZZIncarnationTake (30).
-/
import Derived.Test.Qxb6601294aProg
import Derived.WalkKit
import Derived.WalkSpells
namespace Go.Proofs.Qxb6601294a
open Go.RowKit

/-- w' is w but for new blocks, draws, and the cells of block b with offsets lo .. hi-1. -/
structure Wrote (b lo hi : Nat) (w w' : World) : Prop where
  os : w'.os = w.os
  tape : w'.tape = w.tape
  output : w'.output = w.output
  size : w.heap.size ≤ w'.heap.size
  block : ∀ k, k < w.heap.size → k ≠ b → w'.heap[k]? = w.heap[k]?
  cell : ∀ o, (o < lo ∨ hi ≤ o) → w'.cell? ⟨b, o, none⟩ = w.cell? ⟨b, o, none⟩
  frozen : ∀ o, w'.frozen? ⟨b, o, none⟩ = w.frozen? ⟨b, o, none⟩

theorem Wrote.refl (b lo hi : Nat) (w : World) : Wrote b lo hi w w := ⟨rfl, rfl, rfl, Nat.le_refl _, fun _ _ _ => rfl, fun _ _ => rfl, fun _ => rfl⟩
theorem Wrote.drew {b lo hi : Nat} {a w : World} (h : Wrote b lo hi a w) : Wrote b lo hi a w.drew := ⟨h.os, h.tape, h.output, h.size, h.block, h.cell, h.frozen⟩
theorem Wrote.alloc {b lo hi : Nat} {a w : World} (h : Wrote b lo hi a w) (hb : b < a.heap.size) (o : Obj) : Wrote b lo hi a (w.alloc o) := by
  have hs := h.size
  refine ⟨h.os, h.tape, h.output, by simp; omega, fun k hk hkb => ?_, fun q hq => ?_, fun q => ?_⟩
  · rw [Below.heap_alloc _ _ _ (by omega)]; exact h.block k hk hkb
  · rw [World.cell?_alloc_past _ _ _ (by omega)]; exact h.cell q hq
  · rw [World.frozen?_alloc_old _ _ _ (by simp; omega)]; exact h.frozen q
theorem Wrote.setCell {b lo hi : Nat} {a w : World} (h : Wrote b lo hi a w) {q : Nat} (h1 : lo ≤ q) (h2 : q < hi) (v : Value) : Wrote b lo hi a (w.setCell ⟨b, q, none⟩ v) := by
  refine ⟨h.os, h.tape, h.output, by simpa [World.setCell] using h.size, fun k hk hkb => ?_, fun o ho => ?_, fun o => ?_⟩
  · rw [Below.heap_setCell _ _ _ _ hkb]; exact h.block k hk hkb
  · have hne : (⟨b, q, none⟩ : Addr) ≠ ⟨b, o, none⟩ := by intro e; injection e; omega
    rw [World.cell?_setCell_other _ _ _ _ hne]; exact h.cell o ho
  · rw [World.frozen?_setCell]; exact h.frozen o
theorem Wrote.trans {b lo hi : Nat} {a w w' : World} (h : Wrote b lo hi a w) (k : Wrote b lo hi w w') : Wrote b lo hi a w' :=
  ⟨k.os.trans h.os, k.tape.trans h.tape, k.output.trans h.output, Nat.le_trans h.size k.size, fun i hi hb => (k.block i (Nat.lt_of_lt_of_le hi h.size) hb).trans (h.block i hi hb),
    fun o ho => (k.cell o ho).trans (h.cell o ho), fun o => (k.frozen o).trans (h.frozen o)⟩
theorem Wrote.mono {b lo hi lo' hi' : Nat} {a w : World} (h : Wrote b lo hi a w) (h1 : lo' ≤ lo) (h2 : hi ≤ hi') : Wrote b lo' hi' a w :=
  ⟨h.os, h.tape, h.output, h.size, h.block, fun o ho => h.cell o (by omega), h.frozen⟩

/-- What (*front).take answers and leaves: arrival, id, sent. -/
def ftA (id sent : Int) (any : Bool) (hid hs : Int) : Int :=
  if any = false then 1 else if id < hid then 1 else if sent < hs then 2 else 0
def ftId (id sent : Int) (any : Bool) (hid hs : Int) : Int :=
  if any = false then hid else if id < hid then hid else if sent < hs then hid else id
def ftSent (id sent : Int) (any : Bool) (hid hs : Int) : Int :=
  if any = false then hs else if id < hid then max sent hs else if sent < hs then hs else sent

set_option maxHeartbeats 400000 in
theorem ft_any (b off : Nat) (id sent : Int) (any : Bool) (hid hs hr : Int) (w : World)
    (hb : b < w.heap.size) (c0 : w.cell? ⟨b, off, none⟩ = some (.int .u64 id)) (c1 : w.cell? ⟨b, off + 1, none⟩ = some (.int .i64 sent)) (c2 : w.cell? ⟨b, off + 2, none⟩ = some (.bool any))
    (f0 : w.frozen? ⟨b, off, none⟩ = false) (f1 : w.frozen? ⟨b, off + 1, none⟩ = false) (f2 : w.frozen? ⟨b, off + 2, none⟩ = false) :
    Calls Try.prog 46 #[.pointer (some ⟨b, off, none⟩), .agg #[.int .u64 hid, .int .i64 hs, .int .i64 hr]] w fun e w' =>
      e = .returned (.int .u8 (ftA id sent any hid hs)) ∧ Wrote b off (off + 3) w w' ∧ w'.cell? ⟨b, off, none⟩ = some (.int .u64 (ftId id sent any hid hs)) ∧
      w'.cell? ⟨b, off + 1, none⟩ = some (.int .i64 (ftSent id sent any hid hs)) ∧ w'.cell? ⟨b, off + 2, none⟩ = some (.bool true) := by
  cases any with
  | false =>
    simp only [ftA, ftId, ftSent, if_true]
    go_enter Try.func46, Try.ntmps46
    go_wp2
    go_ret
    refine ⟨rfl, ((((Wrote.refl _ _ _ _).setCell (by omega) (by omega) _).setCell (by omega) (by omega) _).setCell (by omega) (by omega) _).alloc hb _, ?_, ?_, ?_⟩
    all_goals go_simp
  | true =>
    by_cases h1 : id < hid
    · simp only [ftA, ftId, ftSent, if_neg (show ¬ (true = false) by decide), if_pos h1]
      go_enter Try.func46, Try.ntmps46
      go_wp2
      go_region
      go_wp2
      go_region
      all_goals go_wp2
      · go_ret
        refine ⟨rfl, (((((Wrote.refl _ _ _ _).setCell (by omega) (by omega) _).setCell (by omega) (by omega) _).alloc hb _).drew).drew, ?_, ?_, ?_⟩
        · go_simp
        · rw [show max sent hs = hs by omega]; go_simp
        · go_simp
      · go_ret
        refine ⟨rfl, (((((Wrote.refl _ _ _ _).setCell (by omega) (by omega) _).setCell (by omega) (by omega) _).alloc hb _).drew).drew, ?_, ?_, ?_⟩
        · go_simp
        · rw [show max sent hs = sent by omega]; go_simp
        · go_simp
    · by_cases h2 : sent < hs
      · simp only [ftA, ftId, ftSent, if_neg (show ¬ (true = false) by decide), if_neg h1, if_pos h2]
        go_enter Try.func46, Try.ntmps46
        go_wp2
        go_region
        go_wp2
        go_region
        go_wp2
        go_region
        go_wp2
        go_ret
        refine ⟨rfl, ((((((Wrote.refl _ _ _ _).setCell (by omega) (by omega) _).setCell (by omega) (by omega) _).alloc hb _).drew).drew).drew, ?_, ?_, ?_⟩
        all_goals go_simp
      · simp only [ftA, ftId, ftSent, if_neg (show ¬ (true = false) by decide), if_neg h1, if_neg h2]
        go_enter Try.func46, Try.ntmps46
        go_wp2
        go_region
        go_wp2
        go_region
        go_wp2
        go_ret
        refine ⟨rfl, (((Wrote.refl _ _ _ _).alloc hb _).drew).drew, ?_, ?_, ?_⟩
        all_goals go_simp
end Go.Proofs.Qxb6601294a
