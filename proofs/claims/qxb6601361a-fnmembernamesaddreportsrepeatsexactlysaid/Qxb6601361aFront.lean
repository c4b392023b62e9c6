/- The front of the law about add: the byte bound (20), the clone (21) and the sort (23) at any argument. -/
import Derived.Test.Qxb6601361aFull
namespace Go.Proofs.Qxb6601361a
open Go.RowKit

/-- The names as they come in. -/
def ArgN (w : World) (ao : Option Addr) (n : Nat) (V : Nat → Value) (N : Nat → List Int) : Prop := n = 0 ∨ ∃ b o, ao = some ⟨b, o, none⟩ ∧ b < w.heap.size ∧ Came w b o n V N
/-- The names as they lie behind the clone. -/
def OwnN (w : World) (ao : Option Addr) (C n : Nat) (V : Nat → Value) (N : Nat → List Int) : Prop := n = 0 ∨ (ao = some ⟨C, 0, none⟩ ∧ C < w.heap.size ∧ Names w C n V N)

set_option maxHeartbeats 1000000 in
theorem zzb (ao : Option Addr) (n cap : Nat) (V : Nat → Value) (N : Nat → List Int) (w : World) (ha : ArgN w ao n V N) :
    Calls Try.prog 20 #[.slice ao n cap] w fun e w' => w' = w ∧ (e = .returned (.bool false) ∨ (e = .returned (.bool true) ∧ n ≤ 1048576 ∧ Hid (∀ i, i < n → (N i).length ≤ 1048576))) := by
  by_cases hbig : n ≤ 1048576
  · go_enter Try.func20, Try.ntmps20
    go_wp2
    go_loop [3, 4] (fun v3 v4 => ∃ k t : Nat, k ≤ n ∧ t ≤ 1048576 ∧ v3 = .int .i64 t ∧ v4 = .int .i64 k ∧ Hid (∀ i, i < k → (N i).length ≤ 1048576)) (fun _ v4 => n - (intOf v4).toNat)
    case atStart => exact ⟨0, n, Nat.zero_le _, hbig, by go_num, rfl, fun i h => absurd h (by omega)⟩
    case round =>
      obtain ⟨k, t, hk, ht, rfl, rfl, HL⟩ := hrel
      by_cases hlt : k < n
      · obtain ⟨b, o, rfl, hb, hN⟩ : ∃ b o, ao = some ⟨b, o, none⟩ ∧ b < w.heap.size ∧ Came w b o n V N := by
          rcases ha with h | h
          · omega
          · exact h
        obtain ⟨hc, hbv⟩ := hN k hlt
        obtain ⟨ao', cp, hve, -⟩ := hbv
        rw [hve] at hc
        obtain ⟨l, hl⟩ : ∃ l, (N k).length = l := ⟨_, rfl⟩
        rw [hl] at hc
        have HLK : Hid ((N k).length = l) := hl
        clear hve hl
        by_cases h1 : l ≤ 1048576
        · by_cases h2 : t + l ≤ 1048576
          · go_wp2
            go_round
            case rel =>
              refine ⟨k + 1, t + l, by omega, h2, by go_num, by go_num, fun i hi => ?_⟩
              by_cases e : i = k
              · subst e; rw [HLK.out]; exact h1
              · exact HL.out i (by omega)
            case measure => simp [intOf]; omega
          · go_wp2
            go_ret
            exact ⟨rfl, Or.inl rfl⟩
        · go_wp2
          go_ret
          exact ⟨rfl, Or.inl rfl⟩
      · obtain rfl : k = n := by omega
        go_wp2
        go_ret
        exact ⟨rfl, Or.inr rfl⟩
  · go_enter Try.func20, Try.ntmps20
    go_wp2
    go_ret
    exact ⟨rfl, Or.inl rfl⟩

theorem cloneN_nil (cap : Nat) (w : World) : Calls Try.prog 21 #[.slice none 0 cap] w fun e w' => e = .returned (.slice none 0 0) ∧ w' = w := by
  have hne := fun wx => @Lib.run_eql_slice_nil Try.prog wx
  go_enter Try.func21, Try.ntmps21
  go_wp2
  go_ret
  exact ⟨rfl, rfl⟩
theorem cloneN_zero (a : Addr) (cap : Nat) (w : World) : Calls Try.prog 21 #[.slice (some a) 0 cap] w fun e w' => (∃ ao, e = .returned (.slice ao 0 0)) ∧ Below w.heap.size w w' := by
  have hmk : ∀ wx, (Instr.makeSlice 41 (.int .i64 0) (.int .i64 0)).run Try.prog wx = _ := make41 0 (by omega)
  have hne := fun wx => @Lib.run_eql_slice_nil Try.prog wx
  go_enter Try.func21, Try.ntmps21
  go_wp2
  go_rounds 1
  go_ret
  exact ⟨⟨_, rfl⟩, (Below.refl _ _).alloc (Nat.le_refl _) _⟩
theorem cloneN_all (ao : Option Addr) (n cap : Nat) (V : Nat → Value) (N : Nat → List Int) (w : World) (ha : ArgN w ao n V N) (hnil : ao = none → n = 0) (hn : n ≤ 65536) (hL : ∀ i, i < n → (N i).length ≤ 1048576) :
    Calls Try.prog 21 #[.slice ao n cap] w fun e w' => ∃ ao' C φ, e = .returned (.slice ao' n n) ∧ Below w.heap.size w w' ∧ OwnN w' ao' C n φ N := by
  by_cases h0 : n = 0
  · subst h0
    cases ao with
    | none =>
      refine (cloneN_nil cap w).mono ?_
      rintro e w' ⟨rfl, rfl⟩
      exact ⟨none, 0, V, rfl, Below.refl _ _, Or.inl rfl⟩
    | some a =>
      refine (cloneN_zero a cap w).mono ?_
      rintro e w' ⟨⟨ao, rfl⟩, hb⟩
      exact ⟨ao, 0, V, rfl, hb, Or.inl rfl⟩
  · obtain ⟨b, o, rfl, hb, hN⟩ : ∃ b o, ao = some ⟨b, o, none⟩ ∧ b < w.heap.size ∧ Came w b o n V N := by
      rcases ha with h | h
      · omega
      · exact h
    refine (cloneN_some b o n cap V N w hb hn hN hL).mono ?_
    rintro e w' ⟨φ, rfl, h1, h2, h3⟩
    exact ⟨_, _, φ, rfl, h1, Or.inr ⟨rfl, h2, h3⟩⟩

set_option maxRecDepth 100000 in
set_option maxHeartbeats 1000000 in
theorem sort_zero (ao : Option Addr) (cap : Nat) (w : World) : Calls Try.prog 23 #[.slice ao 0 cap] w fun e w' => ∃ fa, e = .returned (.slice (some ⟨fa, 0, none⟩) 0 0) ∧ Below w.heap.size w w' ∧ w.heap.size ≤ fa ∧ fa < w'.heap.size ∧ w'.rowIs fa 3 0 (fun x => .int .i64 (([] : List Nat).getD x 0)) := by
  have hmk : ∀ wx, (Instr.makeSlice 51 (.int .i64 0) (.int .i64 0)).run Try.prog wx = _ := make51 0 (by omega)
  go_enter Try.func23, Try.ntmps23
  go_wp2
  go_rounds 1
  go_rounds 1
  go_ret
  exact ⟨w.heap.size, rfl, ((Below.refl _ _).alloc (Nat.le_refl _) _).alloc (by simp) _, Nat.le_refl _, by simp only [World.size_alloc]; omega, ((World.rowIs_made w _ 0 3).alloc _).congr fun i h => by omega⟩

theorem sort_all (ao : Option Addr) (C n cap : Nat) (V : Nat → Value) (N : Nat → List Int) (w : World) (hn : n ≤ 65536) (ho : OwnN w ao C n V N) (hL : ∀ i, i < n → (N i).length ≤ 1048576) :
    Calls Try.prog 23 #[.slice ao n cap] w fun e w' => ∃ fa A, e = .returned (.slice (some ⟨fa, 0, none⟩) n n) ∧ Seg N A 0 n ∧ Below w.heap.size w w' ∧ w.heap.size ≤ fa ∧ fa < w'.heap.size ∧ w'.rowIs fa 3 n (fun x => .int .i64 (A.getD x 0)) := by
  rcases ho with rfl | ⟨rfl, hC, hN⟩
  · refine (sort_zero ao cap w).mono ?_
    rintro e w' ⟨fa, rfl, h1, h2, h3, h4⟩
    exact ⟨fa, [], rfl, Seg.empty N 0, h1, h2, h3, h4⟩
  · exact sort_any C n cap V N w hC hn hN hL
end Go.Proofs.Qxb6601361a
