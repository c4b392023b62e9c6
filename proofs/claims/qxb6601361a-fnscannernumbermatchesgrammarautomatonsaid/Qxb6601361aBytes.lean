/- A []byte that is read: BAt; b1CloneBytes (9). -/
import Derived.Test.Qxb6601361aProg
import Derived.WalkKit
import Derived.WalkSpells
import Derived.Deep.OwnRows
import Derived.BigQuiet
import Derived.Deep.QuietTactic
import Derived.Handy
namespace Go.Proofs.Qxb6601361a
open Go.RowKit

theorem binfo5 : (Try.prog.info? 5).map (fun i => (i.zero, i.size, i.bytes)) = some (some (.int .u8 0), 1, 1) := by kernel_rfl

/-- The bytes xs lie in block b from offset o on. -/
def Lies (w : World) (b o : Nat) (xs : List Int) : Prop := ∀ i (h : i < xs.length), w.cell? ⟨b, o + i, none⟩ = some (.int .u8 xs[i])

/-- The []byte at address a holds xs: it is empty, or its bytes lie in an old block. -/
def ArgB (w : World) (a : Addr) (xs : List Int) : Prop := xs = [] ∨ ∃ b o, a = ⟨b, o, none⟩ ∧ b < w.heap.size ∧ Lies w b o xs

theorem Lies.below {w w' : World} {B b o : Nat} {xs : List Int} (h : Lies w b o xs) (hb : Below B w w') (hl : b < B) : Lies w' b o xs := fun i hi => by
  rw [hb.cell (by exact hl)]; exact h i hi

theorem ArgB.below {w w' : World} {a : Addr} {xs : List Int} (h : ArgB w a xs) (hb : Below w.heap.size w w') : ArgB w' a xs := by
  rcases h with h | ⟨b, o, rfl, h1, h2⟩
  · exact Or.inl h
  · exact Or.inr ⟨b, o, rfl, Nat.lt_of_lt_of_le h1 hb.size, h2.below hb h1⟩

theorem make5 (n : Nat) (hn : n ≤ 1048576) (w : World) : (Instr.makeSlice 22 (.int .i64 (n : Int)) (.int .i64 (n : Int))).run Try.prog w = .ok (.slice (some ⟨w.heap.size, 0, none⟩) n n) (w.alloc (.cells (madeCells #[.int .u8 0] n) 5)) :=
  run_make_row' (P := Try.prog) 22 5 (.int .u8 0) 1 Try.underlying22 binfo5 rfl .i64 .i64 n (by omega) (by omega) w

/-- The first k cells of a row are the first k bytes. -/
def Upto (f : Nat → Value) (k : Nat) (xs : List Int) : Prop := ∀ i (h : i < xs.length), i < k → f i = .int .u8 xs[i]
theorem upto_step {w : World} {B n k : Nat} {t : TypeId} {f : Nat → Value} {xs : List Int} (hr : w.rowIs B t n f) (hu : Upto f k xs) (hk : k < xs.length) :
    ∃ g, (w.setCell ⟨B, k, none⟩ (.int .u8 xs[k])).rowIs B t n g ∧ Upto g (k + 1) xs := by
  refine ⟨_, hr.set _ _, fun i hi hik => ?_⟩
  by_cases e : i = k
  · subst e; simp
  · simp only [if_neg e]; exact hu i hi (by omega)

set_option maxHeartbeats 400000 in
theorem cloneB_some (b o cap : Nat) (xs : List Int) (w : World) (hb : b < w.heap.size) (hn : xs.length ≤ 1048576) (hl : Lies w b o xs) :
    Calls Try.prog 9 #[.slice (some ⟨b, o, none⟩) xs.length cap] w fun e w' => e = .returned (.slice (some ⟨w.heap.size, 0, none⟩) xs.length xs.length) ∧ Below w.heap.size w w' ∧ w.heap.size < w'.heap.size ∧ Lies w' w.heap.size 0 xs := by
  have hmk := make5 xs.length hn
  have hne := fun wx => @Lib.run_eql_slice_nil Try.prog wx
  obtain ⟨n, hN⟩ : ∃ n, xs.length = n := ⟨_, rfl⟩
  have HN : Hid (xs.length = n) := hN
  rw [hN] at hmk hn ⊢
  clear hN
  go_enter Try.func9, Try.ntmps9
  go_wp2
  go_loopw [4] (fun i wr => ∃ (k : Nat) (f : Nat → Value), k ≤ n ∧ i = .int .i64 k ∧ Below w.heap.size w wr ∧ wr.rowIs w.heap.size 5 n f ∧ Upto f k xs) (fun i _ => n - (intOf i).toNat)
  case atStart => exact ⟨0, _, Nat.zero_le _, rfl, (Below.refl _ _).alloc (Nat.le_refl _) _, World.rowIs_made w _ n 5, fun i _ h => absurd h (by omega)⟩
  case round =>
    obtain ⟨k, f, hk, rfl, hbel, hrow, hup⟩ := hrel
    by_cases hlt : k < n
    · have hkx : k < xs.length := by have := HN.out; omega
      have hc := (hl.below hbel hb) k hkx
      have hB := hrow.lt
      have g0 := hrow.cell (i := k) hlt
      have hfr := fun j => hrow.frozen j
      go_wp2
      obtain ⟨g, hg, hug⟩ := upto_step hrow hup hkx
      go_roundw
      case rel => exact ⟨k + 1, g, by omega, by go_num, hbel.setCell (Nat.le_refl _) _, hg, hug⟩
      case measure => simp [intOf]; omega
    · obtain rfl : k = n := by omega
      go_wp2
      go_ret
      refine ⟨rfl, hbel, hrow.lt, fun i hi => ?_⟩
      have := HN.out
      rw [Nat.zero_add, hrow.cell (by omega), hup i hi (by omega)]

theorem cloneB_zero (a : Addr) (cap : Nat) (w : World) :
    Calls Try.prog 9 #[.slice (some a) 0 cap] w fun e w' => e = .returned (.slice (some ⟨w.heap.size, 0, none⟩) 0 0) ∧ Below w.heap.size w w' ∧ w.heap.size < w'.heap.size := by
  have hmk := fun w => make5 0 (by omega) w
  simp only [Int.cast_ofNat_Int] at hmk
  have hne := fun wx => @Lib.run_eql_slice_nil Try.prog wx
  go_enter Try.func9, Try.ntmps9
  go_wp2
  go_rounds 1
  go_ret
  exact ⟨rfl, (Below.refl _ _).alloc (Nat.le_refl _) _, by simp⟩

theorem cloneB_any (a : Addr) (cap : Nat) (xs : List Int) (w : World) (hn : xs.length ≤ 1048576) (h : ArgB w a xs) :
    Calls Try.prog 9 #[.slice (some a) xs.length cap] w fun e w' => e = .returned (.slice (some ⟨w.heap.size, 0, none⟩) xs.length xs.length) ∧ Below w.heap.size w w' ∧ w.heap.size < w'.heap.size ∧ Lies w' w.heap.size 0 xs := by
  rcases h with rfl | ⟨b, o, rfl, hb, hl⟩
  · refine (cloneB_zero a cap w).mono ?_
    rintro e w' ⟨h1, h2, h3⟩
    exact ⟨h1, h2, h3, fun i hi => absurd hi (by simp)⟩
  · exact cloneB_some b o cap xs w hb hn hl

theorem cloneB_nil (w : World) : Calls Try.prog 9 #[.slice none 0 0] w fun e w' => e = .returned (.slice none 0 0) ∧ w' = w := by
  have hne := fun wx => @Lib.run_eql_slice_nil Try.prog wx
  go_enter Try.func9, Try.ntmps9
  go_wp2
  go_ret
  exact ⟨rfl, rfl⟩
end Go.Proofs.Qxb6601361a
