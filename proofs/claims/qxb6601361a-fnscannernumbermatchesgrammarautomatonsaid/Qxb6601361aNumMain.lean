/- ZZScannerNumber (10) and the law's walk (3). -/
import Derived.Test.Qxb6601361aNumber
namespace Go.Proofs.Qxb6601361a
open Go.RowKit

/-- What ZZScannerNumber hands back. -/
def Gives (ao : Option Addr) (n cap : Nat) (xs : List Int) (d : Int) (bad : Bool) (p : Nat) (e : Ending) : Prop :=
  (Reads xs p none ∧ e = .returned (.tuple #[.slice none 0 0, .slice ao n cap, .int .i64 n, .int .i64 d, .bool true])) ∨
  ∃ q b o, Reads xs p (some q) ∧ p < q ∧ q ≤ n ∧ ao = some ⟨b, o, none⟩ ∧ e = .returned (.tuple #[.slice (some ⟨b, o + p, none⟩) (q - p) (cap - p), .slice ao n cap, .int .i64 q, .int .i64 d, .bool bad])

theorem DV.fresh {w : World} {v : Value} {xs : List Int} (h : BV w v xs) (o : Obj) : DV w.heap.size (w.alloc o) v xs := by
  obtain ⟨ao, cap, h1, h2⟩ := h
  refine ⟨ao, cap, h1, ?_⟩
  rcases h2 with h2 | ⟨b, off, h3, h4, h5⟩
  · exact Or.inl h2
  · exact Or.inr ⟨b, off, h3, by simp; omega, by omega, h5.below ((Below.refl w.heap.size w).alloc (Nat.le_refl _) o) h4⟩

theorem scan_fresh (w : World) (v : Value) (a d : Int) (bad : Bool) : Scan (w.alloc (.cells #[v, .int .i64 a, .int .i64 d, .bool bad] 56)) w.heap.size v a d bad :=
  World.rowIs_alloc w #[v, .int .i64 a, .int .i64 d, .bool bad] 56 _ fun i hi => by
    match i, hi with
    | 0, _ => rfl
    | 1, _ => rfl
    | 2, _ => rfl
    | 3, _ => rfl

theorem turn_below {w w' : World} {o : Obj} (h : Turn (w.alloc o) w' w.heap.size) : Below w.heap.size w w' :=
  ⟨h.os, h.tape, h.output, by have := h.size; simp at this; omega, fun k hk => (h.block k (by omega)).trans (Below.heap_alloc _ _ _ hk)⟩

set_option maxRecDepth 100000 in
set_option maxHeartbeats 2000000 in
theorem zznum_walk (ao : Option Addr) (n cap : Nat) (xs : List Int) (a : Nat) (d : Int) (bad : Bool) (w : World) (hv : BV w (.slice ao n cap) xs) (hn : Hid (xs.length = n)) (hl : n ≤ 1048576) (hcap : n ≤ cap) (ha : a < 9223372036854775808) :
    Calls Try.prog 10 #[.slice ao n cap, .int .i64 a, .int .i64 d, .bool bad] w fun e w' => Below w.heap.size w w' ∧ ∃ p, SpRun xs a p ∧ Gives ao n cap xs d bad p e := by
  have hc := number_walk w.heap.size ao n cap xs a d bad _ (scan_fresh w (.slice ao n cap) a d bad) (DV.fresh hv _) hn hl hcap ha
  go_enter Try.func10, Try.ntmps10
  go_wp2_with fail
  refine hc.mono ?_
  rintro e w2 ⟨ht, p, hsp, hL⟩
  rcases hL with ⟨hR, rfl, hs2⟩ | ⟨q, b, o, hR, h1, h2, rfl, rfl, hs2⟩
  · have g0 : w2.cell? ⟨w.heap.size, 0, none⟩ = some (.slice ao n cap) := hs2.cell (i := 0) (by omega)
    have g1 : w2.cell? ⟨w.heap.size, 1, none⟩ = some (.int .i64 n) := hs2.cell (i := 1) (by omega)
    have g2 : w2.cell? ⟨w.heap.size, 2, none⟩ = some (.int .i64 d) := hs2.cell (i := 2) (by omega)
    have g3 : w2.cell? ⟨w.heap.size, 3, none⟩ = some (.bool true) := hs2.cell (i := 3) (by omega)
    go_wp2
    go_quiet (fail)
    go_wp2
    refine bodyPost_ret (by simp [results, Try.results10, go_sem]) rfl ⟨?_, p, hsp, Or.inl ⟨hR, rfl⟩⟩
    exact ⟨(turn_below ht).os, (turn_below ht).tape, (turn_below ht).output, (turn_below ht).size, (turn_below ht).block⟩
  · have g0 : w2.cell? ⟨w.heap.size, 0, none⟩ = some (.slice (some ⟨b, o, none⟩) n cap) := hs2.cell (i := 0) (by omega)
    have g1 : w2.cell? ⟨w.heap.size, 1, none⟩ = some (.int .i64 q) := hs2.cell (i := 1) (by omega)
    have g2 : w2.cell? ⟨w.heap.size, 2, none⟩ = some (.int .i64 d) := hs2.cell (i := 2) (by omega)
    have g3 : w2.cell? ⟨w.heap.size, 3, none⟩ = some (.bool bad) := hs2.cell (i := 3) (by omega)
    go_wp2
    go_quiet (fail)
    go_wp2
    refine bodyPost_ret (by simp [results, Try.results10, go_sem]) rfl ⟨?_, p, hsp, Or.inr ⟨q, b, o, hR, h1, h2, rfl, rfl⟩⟩
    exact ⟨(turn_below ht).os, (turn_below ht).tape, (turn_below ht).output, (turn_below ht).size, (turn_below ht).block⟩
end Go.Proofs.Qxb6601361a
