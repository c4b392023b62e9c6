/- cloneHB (29) and the two byte bounds (36, 28). -/
import Derived.Test.Qxb6601294aProg
import Derived.WalkKit
import Derived.WalkSpells
import Derived.Deep.OwnRows
import Derived.Handy
namespace Go.Proofs.Qxb6601294a
open Go.RowKit

/-- n heartbeats lie in block b from offset off on. -/
def HBat (w : World) (b off n : Nat) (I S R : Nat → Int) : Prop :=
  ∀ i, i < n → w.cell? ⟨b, off + i * 3, none⟩ = some (.int .u64 (I i)) ∧ w.cell? ⟨b, off + i * 3 + 1, none⟩ = some (.int .i64 (S i)) ∧ w.cell? ⟨b, off + i * 3 + 2, none⟩ = some (.int .i64 (R i))

theorem HBat.below {w w' : World} {B b off n : Nat} {I S R : Nat → Int} (h : HBat w b off n I S R) (hb : Below B w w') (hl : b < B) : HBat w' b off n I S R := by
  intro i hi
  rw [hb.cell (by exact hl), hb.cell (by exact hl), hb.cell (by exact hl)]
  exact h i hi

theorem info52 : (Try.prog.info? 52).map (fun i => (i.zero, i.size, i.bytes)) = some (some (.agg #[.int .u64 0, .int .i64 0, .int .i64 0]), 3, 24) := by kernel_rfl

theorem make52 (n : Nat) (hn : n ≤ 1048576) (w : World) : (Instr.makeSlice 48 (.int .i64 (n : Int)) (.int .i64 (n : Int))).run Try.prog w =
    .ok (.slice (some ⟨w.heap.size, 0, none⟩) n n) (w.alloc (.cells (madeCells #[.int .u64 0, .int .i64 0, .int .i64 0] (n * 3)) 52)) := by
  obtain ⟨i, hi, hz, hs, hb⟩ := info_parts info52
  have h := run_make (P := Try.prog) w 48 52 i _ Try.underlying48 hi hz .i64 .i64 n n (by omega) (Int.le_refl _) (by rw [hb]; omega) (by omega)
  rw [hs] at h
  simpa [Value.cells] using h

theorem made_row (w : World) (n : Nat) : ∃ f, (w.alloc (.cells (madeCells #[.int .u64 0, .int .i64 0, .int .i64 0] (n * 3)) 52)).rowIs w.heap.size 52 (n * 3) f := by
  have h := World.rowIs_alloc w (madeCells #[.int .u64 0, .int .i64 0, .int .i64 0] (n * 3)) 52 (fun j => (madeCells #[.int .u64 0, .int .i64 0, .int .i64 0] (n * 3)).getD j undef) (fun i hi => by simp [Array.getD, hi])
  rw [size_madeCells] at h
  exact ⟨_, h⟩

/-- Of a row of heartbeats the first k are copied. -/
def Copied (f : Nat → Value) (k : Nat) (I S R : Nat → Int) : Prop := ∀ i, i < k → f (i * 3) = .int .u64 (I i) ∧ f (i * 3 + 1) = .int .i64 (S i) ∧ f (i * 3 + 2) = .int .i64 (R i)

theorem copied_step {w : World} {B n k : Nat} {f : Nat → Value} {I S R : Nat → Int} (hr : w.rowIs B 52 (n * 3) f) (hc : Copied f k I S R) :
    ∃ g, (((w.setCell ⟨B, k * 3, none⟩ (.int .u64 (I k))).setCell ⟨B, k * 3 + 1, none⟩ (.int .i64 (S k))).setCell ⟨B, k * 3 + 2, none⟩ (.int .i64 (R k))).rowIs B 52 (n * 3) g ∧ Copied g (k + 1) I S R := by
  refine ⟨_, ((hr.set _ _).set _ _).set _ _, fun i hi => ?_⟩
  by_cases e : i = k
  · subst e
    refine ⟨?_, ?_, ?_⟩ <;> simp
  · have h := hc i (by omega)
    refine ⟨?_, ?_, ?_⟩
    · simp only [show ¬ i * 3 = k * 3 + 2 by omega, show ¬ i * 3 = k * 3 + 1 by omega, show ¬ i * 3 = k * 3 by omega, if_false]; exact h.1
    · simp only [show ¬ i * 3 + 1 = k * 3 + 2 by omega, show ¬ i * 3 + 1 = k * 3 + 1 by omega, show ¬ i * 3 + 1 = k * 3 by omega, if_false]; exact h.2.1
    · simp only [show ¬ i * 3 + 2 = k * 3 + 2 by omega, show ¬ i * 3 + 2 = k * 3 + 1 by omega, show ¬ i * 3 + 2 = k * 3 by omega, if_false]; exact h.2.2

set_option maxHeartbeats 400000 in
theorem clone_some (b off n cap : Nat) (I S R : Nat → Int) (w : World) (hb : b < w.heap.size) (hn : n ≤ 1048576) (hH : HBat w b off n I S R) :
    Calls Try.prog 29 #[.slice (some ⟨b, off, none⟩) n cap] w fun e w' => e = .returned (.slice (some ⟨w.heap.size, 0, none⟩) n n) ∧ Below w.heap.size w w' ∧ w.heap.size < w'.heap.size ∧ HBat w' w.heap.size 0 n I S R := by
  have hmk := make52 n hn
  have hne := fun wx => @Lib.run_eql_slice_nil Try.prog wx
  go_enter Try.func29, Try.ntmps29
  go_wp2
  go_loopw [4] (fun i wr => ∃ (k : Nat) (f : Nat → Value), k ≤ n ∧ i = .int .i64 k ∧ Below w.heap.size w wr ∧ wr.rowIs w.heap.size 52 (n * 3) f ∧ Copied f k I S R) (fun i _ => n - (intOf i).toNat)
  case atStart =>
    obtain ⟨f, hf⟩ := made_row w n
    exact ⟨0, f, Nat.zero_le _, rfl, (Below.refl _ _).alloc (Nat.le_refl _) _, hf, fun i hi => absurd hi (by omega)⟩
  case round =>
    obtain ⟨k, f, hk, rfl, hbel, hrow, hcop⟩ := hrel
    by_cases hlt : k < n
    · obtain ⟨h0, h1, h2⟩ := (hH.below hbel hb) k hlt
      have hB := hrow.lt
      have g0 := hrow.cell (i := k * 3) (by omega)
      have g1 := hrow.cell (i := k * 3 + 1) (by omega)
      have g2 := hrow.cell (i := k * 3 + 2) (by omega)
      have hfr := fun j => hrow.frozen j
      go_wp2
      obtain ⟨g, hg, hcg⟩ := copied_step hrow hcop
      go_roundw
      case rel => exact ⟨k + 1, g, by omega, by go_num, ((hbel.setCell (Nat.le_refl _) _).setCell (Nat.le_refl _) _).setCell (Nat.le_refl _) _, hg, hcg⟩
      case measure => simp [intOf]; omega
    · obtain rfl : k = n := by omega
      go_wp2
      go_ret
      refine ⟨rfl, hbel, hrow.lt, fun i hi => ?_⟩
      obtain ⟨e0, e1, e2⟩ := hcop i hi
      rw [Nat.zero_add, hrow.cell (by omega), hrow.cell (by omega), hrow.cell (by omega), e0, e1, e2]
      exact ⟨rfl, rfl, rfl⟩

/-- What the walk is told of the slice of heartbeats that came in, not nil: it is empty, or its n elements lie in an old block. -/
def ArgHB (w : World) (a : Addr) (n : Nat) (I S R : Nat → Int) : Prop := n = 0 ∨ ∃ b off, a = ⟨b, off, none⟩ ∧ b < w.heap.size ∧ HBat w b off n I S R

theorem clone_zero (a : Addr) (cap : Nat) (w : World) :
    Calls Try.prog 29 #[.slice (some a) 0 cap] w fun e w' => e = .returned (.slice (some ⟨w.heap.size, 0, none⟩) 0 0) ∧ Below w.heap.size w w' ∧ w.heap.size < w'.heap.size := by
  have hmk := fun w => make52 0 (by omega) w
  simp only [Nat.zero_mul, Int.cast_ofNat_Int] at hmk
  have hne := fun wx => @Lib.run_eql_slice_nil Try.prog wx
  go_enter Try.func29, Try.ntmps29
  go_wp2
  go_rounds 1
  go_ret
  exact ⟨rfl, (Below.refl _ _).alloc (Nat.le_refl _) _, by simp⟩

theorem clone_any (a : Addr) (n cap : Nat) (I S R : Nat → Int) (w : World) (hn : n ≤ 1048576) (hH : ArgHB w a n I S R) :
    Calls Try.prog 29 #[.slice (some a) n cap] w fun e w' => e = .returned (.slice (some ⟨w.heap.size, 0, none⟩) n n) ∧ Below w.heap.size w w' ∧ w.heap.size < w'.heap.size ∧ HBat w' w.heap.size 0 n I S R := by
  rcases hH with rfl | ⟨b, off, rfl, hb, h⟩
  · refine (clone_zero a cap w).mono ?_
    rintro e w' ⟨h1, h2, h3⟩
    exact ⟨h1, h2, h3, fun i hi => absurd hi (by omega)⟩
  · exact clone_some b off n cap I S R w hb hn h

theorem clone_nil (w : World) : Calls Try.prog 29 #[.slice none 0 0] w fun e w' => e = .returned (.slice none 0 0) ∧ w' = w := by
  have hne := fun wx => @Lib.run_eql_slice_nil Try.prog wx
  go_enter Try.func29, Try.ntmps29
  go_wp2
  go_ret
  exact ⟨rfl, rfl⟩

theorem bytes36 (a : Option Addr) (n cap : Nat) (hn : n ≤ 1048576) (w : World) : Calls Try.prog 36 #[.slice a n cap] w fun e w' => e = .returned (.bool true) ∧ w' = w := by
  go_enter Try.func36, Try.ntmps36
  go_wp2
  go_ret
  exact ⟨rfl, rfl⟩
theorem bytes36_big (a : Option Addr) (n cap : Nat) (hn : 1048576 < n) (w : World) : Calls Try.prog 36 #[.slice a n cap] w fun e w' => e = .returned (.bool false) ∧ w' = w := by
  go_enter Try.func36, Try.ntmps36
  go_wp2
  go_ret
  exact ⟨rfl, rfl⟩
theorem bytes28 (a : Option Addr) (n cap : Nat) (hn : n ≤ 1048576) (w : World) : Calls Try.prog 28 #[.slice a n cap] w fun e w' => e = .returned (.bool true) ∧ w' = w := by
  go_enter Try.func28, Try.ntmps28
  go_wp2
  go_ret
  exact ⟨rfl, rfl⟩
theorem bytes28_big (a : Option Addr) (n cap : Nat) (hn : 1048576 < n) (w : World) : Calls Try.prog 28 #[.slice a n cap] w fun e w' => e = .returned (.bool false) ∧ w' = w := by
  go_enter Try.func28, Try.ntmps28
  go_wp2
  go_ret
  exact ⟨rfl, rfl⟩
end Go.Proofs.Qxb6601294a
