/- b1CloneNames (21), the byte bound (20), and a nil sort. -/
import Derived.Test.Qxb6601361aSort
namespace Go.Proofs.Qxb6601361a
open Go.RowKit

theorem cloneB_none (cap : Nat) (w : World) : Calls Try.prog 9 #[.slice none 0 cap] w fun e w' => e = .returned (.slice none 0 0) ∧ w' = w := by
  have hne := fun wx => @Lib.run_eql_slice_nil Try.prog wx
  go_enter Try.func9, Try.ntmps9
  go_wp2
  go_ret
  exact ⟨rfl, rfl⟩

/-- A []byte value, nil or not, that holds xs, not in block C. -/
def BX (C : Nat) (w : World) (v : Value) (xs : List Int) : Prop := ∃ ao cap, v = .slice ao xs.length cap ∧ (xs = [] ∨ ∃ b o, ao = some ⟨b, o, none⟩ ∧ b < w.heap.size ∧ b ≠ C ∧ Lies w b o xs)
theorem BX.bv {C : Nat} {w : World} {v : Value} {xs : List Int} (h : BX C w v xs) : BV w v xs := by
  obtain ⟨ao, cap, h1, h2⟩ := h
  refine ⟨ao, cap, h1, ?_⟩
  rcases h2 with h2 | ⟨b, o, h3, h4, _, h5⟩
  · exact Or.inl h2
  · exact Or.inr ⟨b, o, h3, h4, h5⟩
theorem BX.below {C : Nat} {w w' : World} {v : Value} {xs : List Int} (h : BX C w v xs) (hb : Below w.heap.size w w') : BX C w' v xs := by
  obtain ⟨ao, cap, h1, h2⟩ := h
  refine ⟨ao, cap, h1, ?_⟩
  rcases h2 with h2 | ⟨b, o, h3, h4, h6, h5⟩
  · exact Or.inl h2
  · exact Or.inr ⟨b, o, h3, Nat.lt_of_lt_of_le h4 hb.size, h6, h5.below hb h4⟩
theorem BX.setCell {C o : Nat} {w : World} {v u : Value} {xs : List Int} (h : BX C w v xs) : BX C (w.setCell ⟨C, o, none⟩ u) v xs := by
  obtain ⟨ao, cap, h1, h2⟩ := h
  refine ⟨ao, cap, h1, ?_⟩
  rcases h2 with h2 | ⟨b, o', h3, h4, h6, h5⟩
  · exact Or.inl h2
  · refine Or.inr ⟨b, o', h3, by simpa [World.setCell] using h4, h6, fun i hi => ?_⟩
    rw [World.cell?_of_block (w := w) (a := ⟨b, o' + i, none⟩) (Below.heap_setCell _ _ _ _ h6)]
    exact h5 i hi

theorem cloneB_bv (C : Nat) (v : Value) (xs : List Int) (w : World) (h : BV w v xs) (hn : xs.length ≤ 1048576) (hC : C < w.heap.size) :
    Calls Try.prog 9 #[v] w fun e w' => ∃ ao n cap, e = .returned (.slice ao n cap) ∧ BX C w' (.slice ao n cap) xs ∧ Below w.heap.size w w' := by
  obtain ⟨ao, cap, rfl, h2⟩ := h
  cases ao with
  | none =>
    have hx : xs = [] := by
      rcases h2 with h2 | ⟨b, o, h3, _⟩
      · exact h2
      · cases h3
    subst hx
    refine (cloneB_none cap w).mono ?_
    rintro e w' ⟨rfl, rfl⟩
    exact ⟨none, 0, 0, rfl, ⟨none, 0, rfl, Or.inl rfl⟩, Below.refl _ _⟩
  | some a =>
    have ha : ArgB w a xs := by
      rcases h2 with h2 | ⟨b, o, h3, h4, h5⟩
      · exact Or.inl h2
      · exact Or.inr ⟨b, o, by simpa using h3, h4, h5⟩
    refine (cloneB_any a cap xs w hn ha).mono ?_
    rintro e w' ⟨rfl, hb, hs, hl⟩
    exact ⟨_, _, _, rfl, ⟨_, _, rfl, Or.inr ⟨w.heap.size, 0, rfl, hs, by omega, hl⟩⟩, hb⟩

theorem info22 : (Try.prog.info? 22).map (fun i => (i.zero, i.size, i.bytes)) = some (some (.slice none 0 0), 1, 24) := by kernel_rfl
theorem make41 (n : Nat) (hn : n ≤ 1048576) (w : World) : (Instr.makeSlice 41 (.int .i64 (n : Int)) (.int .i64 (n : Int))).run Try.prog w = .ok (.slice (some ⟨w.heap.size, 0, none⟩) n n) (w.alloc (.cells (madeCells #[.slice none 0 0] n) 22)) :=
  run_make_row' (P := Try.prog) 41 22 (.slice none 0 0) 24 Try.underlying41 info22 rfl .i64 .i64 n (by omega) (by omega) w

/-- The names that came in lie in block b from offset o on. -/
def Came (w : World) (b o n : Nat) (V : Nat → Value) (N : Nat → List Int) : Prop := ∀ i, i < n → w.cell? ⟨b, o + i, none⟩ = some (V i) ∧ BV w (V i) (N i)
theorem Came.below {w w' : World} {b o n : Nat} {V : Nat → Value} {N : Nat → List Int} (h : Came w b o n V N) (hC : b < w.heap.size) (hb : Below w.heap.size w w') : Came w' b o n V N := fun i hi => by
  rw [hb.cell (by exact hC)]
  exact ⟨(h i hi).1, (h i hi).2.below hb⟩

set_option maxHeartbeats 1000000 in
theorem cloneN_some (b o n cap : Nat) (V : Nat → Value) (N : Nat → List Int) (w : World) (hb : b < w.heap.size) (hn : n ≤ 65536) (hN : Came w b o n V N) (hL : ∀ i, i < n → (N i).length ≤ 1048576) :
    Calls Try.prog 21 #[.slice (some ⟨b, o, none⟩) n cap] w fun e w' => ∃ φ, e = .returned (.slice (some ⟨w.heap.size, 0, none⟩) n n) ∧ Below w.heap.size w w' ∧ w.heap.size < w'.heap.size ∧ Names w' w.heap.size n φ N := by
  have hmk := make41 n (by omega)
  have hne := fun wx => @Lib.run_eql_slice_nil Try.prog wx
  go_enter Try.func21, Try.ntmps21
  go_wp2
  go_loopw [4] (fun i wr => ∃ (k : Nat) (φ : Nat → Value), k ≤ n ∧ i = .int .i64 k ∧ Below w.heap.size w wr ∧ wr.rowIs w.heap.size 22 n φ ∧ ∀ j, j < k → BX w.heap.size wr (φ j) (N j)) (fun i _ => n - (intOf i).toNat)
  case atStart => exact ⟨0, _, Nat.zero_le _, rfl, (Below.refl _ _).alloc (Nat.le_refl _) _, World.rowIs_made w _ n 22, fun j h => absurd h (by omega)⟩
  case round =>
    obtain ⟨k, φ, hk, rfl, hbel, hrow, hup⟩ := hrel
    by_cases hlt : k < n
    · obtain ⟨hc, hbv⟩ := hN.below hb hbel k hlt
      have hB := hrow.lt
      obtain ⟨vk, hvk⟩ : ∃ v, V k = v := ⟨_, rfl⟩
      rw [hvk] at hc hbv
      clear hvk
      go_wp2_with fail
      refine (cloneB_bv w.heap.size vk (N k) _ hbv (hL k hlt) hB).mono ?_
      rintro e w1 ⟨ao, m, cp, rfl, hbx, hb1⟩
      have hrow1 : w1.rowIs w.heap.size 22 n φ := hrow.of_block (hb1.block _ hB)
      have g0 := hrow1.cell (i := k) hlt
      have hfr := fun j => hrow1.frozen j
      have hB1 := hrow1.lt
      have hup1 : ∀ j, j < k → BX w.heap.size w1 (φ j) (N j) := fun j hj => (hup j hj).below hb1
      have hbel1 : Below w.heap.size w w1 := hbel.trans (hb1.mono hbel.size)
      clear hup hrow hbel hb1 hc hbv
      go_wp2
      go_roundw
      case rel =>
        refine ⟨k + 1, _, by omega, by go_num, hbel1.setCell (Nat.le_refl _) _, hrow1.set _ _, fun j hj => ?_⟩
        by_cases e : j = k
        · subst e; simp only [if_true]; exact hbx.setCell
        · simp only [if_neg e]; exact (hup1 j (by omega)).setCell
      case measure => simp [intOf]; omega
    · obtain rfl : k = n := by omega
      go_wp2
      go_ret
      exact ⟨φ, rfl, hbel, hrow.lt, fun i hi => ⟨hrow.cell hi, (hup i hi).bv⟩⟩
end Go.Proofs.Qxb6601361a
