/- The small walks of the law about numbers: 8, 11, 12, 26, 13, 30, 31. -/
import Derived.Test.Qxb6601361aNumPlain
import Derived.Test.Qxb6601361aCmp
namespace Go.Proofs.Qxb6601361a
open Go.RowKit
set_option linter.unusedSimpArgs false
set_option linter.unusedVariables false

theorem zz8 (v1 : Option Addr) (n cap : Nat) (a1 a2 : Int) (a3 : Bool) (w : World) :
    Calls Try.prog 8 #[.slice v1 n cap, .int .i64 a1, .int .i64 a2, .bool a3] w fun e w' => w' = w ∧ ((e = .returned (.bool false)) ∨ (e = .returned (.bool true) ∧ n ≤ 1048576)) := by
  by_cases h : n ≤ 1048576
  · go_enter Try.func8, Try.ntmps8
    go_wp2
    go_ret
    first | exact ⟨rfl, Or.inr ⟨rfl, h⟩⟩ | exact ⟨rfl, Or.inr rfl⟩
  · go_enter Try.func8, Try.ntmps8
    go_wp2
    go_ret
    exact ⟨rfl, Or.inl rfl⟩

theorem space_walk (c : Int) (w : World) : Calls Try.prog 12 #[.int .u8 c] w fun e w' => e = .returned (.bool (@decide (Sp c) (decSp c))) ∧ w' = w := by
  by_cases h1 : c = 32
  · subst h1
    go_enter Try.func12, Try.ntmps12
    go_wp2
    go_ret
    exact ⟨rfl, rfl⟩
  by_cases h2 : c = 9
  · subst h2
    go_enter Try.func12, Try.ntmps12
    go_wp2
    go_ret
    exact ⟨rfl, rfl⟩
  by_cases h3 : c = 13
  · subst h3
    go_enter Try.func12, Try.ntmps12
    go_wp2
    go_ret
    exact ⟨rfl, rfl⟩
  by_cases h4 : c = 10
  · subst h4
    go_enter Try.func12, Try.ntmps12
    go_wp2
    go_ret
    exact ⟨rfl, rfl⟩
  have e1 : (c == 32) = false := by simp [h1]
  have e2 : (c == 9) = false := by simp [h2]
  have e3 : (c == 13) = false := by simp [h3]
  have e4 : (c == 10) = false := by simp [h4]
  have hs : @decide (Sp c) (decSp c) = false := @decide_eq_false _ (decSp c) (by simp [Sp, h1, h2, h3, h4])
  rw [hs]
  go_enter Try.func12, Try.ntmps12
  go_wp2
  go_ret
  exact ⟨rfl, rfl⟩

set_option maxHeartbeats 2000000 in
theorem step_const_walk (st : Nat) (hst : st ≤ 8) (c : Int) (hc : c = 48 ∨ c = 45 ∨ c = 46 ∨ c = 43 ∨ c = 101 ∨ c = 69) (w : World) : Calls Try.prog 26 #[.int .i64 st, .int .u8 c] w fun e w' => e = .returned (.int .i64 (stepI st c)) ∧ w' = w := by
  match st, hst with
  | 0, _ => rcases hc with rfl | rfl | rfl | rfl | rfl | rfl <;> (go_enter Try.func26, Try.ntmps26; go_wp2; go_ret; exact ⟨rfl, rfl⟩)
  | 1, _ => rcases hc with rfl | rfl | rfl | rfl | rfl | rfl <;> (go_enter Try.func26, Try.ntmps26; go_wp2; go_ret; exact ⟨rfl, rfl⟩)
  | 2, _ => rcases hc with rfl | rfl | rfl | rfl | rfl | rfl <;> (go_enter Try.func26, Try.ntmps26; go_wp2; go_ret; exact ⟨rfl, rfl⟩)
  | 3, _ => rcases hc with rfl | rfl | rfl | rfl | rfl | rfl <;> (go_enter Try.func26, Try.ntmps26; go_wp2; go_ret; exact ⟨rfl, rfl⟩)
  | 4, _ => rcases hc with rfl | rfl | rfl | rfl | rfl | rfl <;> (go_enter Try.func26, Try.ntmps26; go_wp2; go_ret; exact ⟨rfl, rfl⟩)
  | 5, _ => rcases hc with rfl | rfl | rfl | rfl | rfl | rfl <;> (go_enter Try.func26, Try.ntmps26; go_wp2; go_ret; exact ⟨rfl, rfl⟩)
  | 6, _ => rcases hc with rfl | rfl | rfl | rfl | rfl | rfl <;> (go_enter Try.func26, Try.ntmps26; go_wp2; go_ret; exact ⟨rfl, rfl⟩)
  | 7, _ => rcases hc with rfl | rfl | rfl | rfl | rfl | rfl <;> (go_enter Try.func26, Try.ntmps26; go_wp2; go_ret; exact ⟨rfl, rfl⟩)
  | 8, _ => rcases hc with rfl | rfl | rfl | rfl | rfl | rfl <;> (go_enter Try.func26, Try.ntmps26; go_wp2; go_ret; exact ⟨rfl, rfl⟩)
set_option maxHeartbeats 2000000 in
theorem step_dig (st : Nat) (hst : st ≤ 8) (c : Int) (h1 : 48 ≤ c) (h2 : c ≤ 57) (g48 : ¬ c = 48) (g45 : ¬ c = 45) (g46 : ¬ c = 46) (g43 : ¬ c = 43) (g101 : ¬ c = 101) (g69 : ¬ c = 69) (w : World) : Calls Try.prog 26 #[.int .i64 st, .int .u8 c] w fun e w' => e = .returned (.int .i64 (stepI st c)) ∧ w' = w := by
  have e48 : (c == 48) = false := by simp [g48]
  have e45 : (c == 45) = false := by simp [g45]
  have e46 : (c == 46) = false := by simp [g46]
  have e43 : (c == 43) = false := by simp [g43]
  have e101 : (c == 101) = false := by simp [g101]
  have e69 : (c == 69) = false := by simp [g69]
  have hdd : Dig c := ⟨h1, h2⟩
  have d1 : decide (48 ≤ c) = true := by simp [h1]
  have d2 : decide (c ≤ 57) = true := by simp [h2]
  match st, hst with
  | 0, _ =>
    rw [show stepI 0 c = 3 by simp [stepI, stepN, hdd, g45, g46, g43, g48, g101, g69]]
    go_enter Try.func26, Try.ntmps26
    go_wp2
    go_ret
    exact ⟨rfl, rfl⟩
  | 1, _ =>
    rw [show stepI 1 c = 3 by simp [stepI, stepN, hdd, g45, g46, g43, g48, g101, g69]]
    go_enter Try.func26, Try.ntmps26
    go_wp2
    go_ret
    exact ⟨rfl, rfl⟩
  | 2, _ =>
    rw [show stepI 2 c = -1 by simp [stepI, stepN, hdd, g45, g46, g43, g48, g101, g69]]
    go_enter Try.func26, Try.ntmps26
    go_wp2
    go_ret
    exact ⟨rfl, rfl⟩
  | 3, _ =>
    rw [show stepI 3 c = 3 by simp [stepI, stepN, hdd, g45, g46, g43, g48, g101, g69]]
    go_enter Try.func26, Try.ntmps26
    go_wp2
    go_ret
    exact ⟨rfl, rfl⟩
  | 4, _ =>
    rw [show stepI 4 c = 5 by simp [stepI, stepN, hdd, g45, g46, g43, g48, g101, g69]]
    go_enter Try.func26, Try.ntmps26
    go_wp2
    go_ret
    exact ⟨rfl, rfl⟩
  | 5, _ =>
    rw [show stepI 5 c = 5 by simp [stepI, stepN, hdd, g45, g46, g43, g48, g101, g69]]
    go_enter Try.func26, Try.ntmps26
    go_wp2
    go_ret
    exact ⟨rfl, rfl⟩
  | 6, _ =>
    rw [show stepI 6 c = 8 by simp [stepI, stepN, hdd, g45, g46, g43, g48, g101, g69]]
    go_enter Try.func26, Try.ntmps26
    go_wp2
    go_ret
    exact ⟨rfl, rfl⟩
  | 7, _ =>
    rw [show stepI 7 c = 8 by simp [stepI, stepN, hdd, g45, g46, g43, g48, g101, g69]]
    go_enter Try.func26, Try.ntmps26
    go_wp2
    go_ret
    exact ⟨rfl, rfl⟩
  | 8, _ =>
    rw [show stepI 8 c = 8 by simp [stepI, stepN, hdd, g45, g46, g43, g48, g101, g69]]
    go_enter Try.func26, Try.ntmps26
    go_wp2
    go_ret
    exact ⟨rfl, rfl⟩
set_option maxHeartbeats 2000000 in
theorem step_low (st : Nat) (hst : st ≤ 8) (c : Int) (h1 : ¬ 48 ≤ c) (g48 : ¬ c = 48) (g45 : ¬ c = 45) (g46 : ¬ c = 46) (g43 : ¬ c = 43) (g101 : ¬ c = 101) (g69 : ¬ c = 69) (w : World) : Calls Try.prog 26 #[.int .i64 st, .int .u8 c] w fun e w' => e = .returned (.int .i64 (stepI st c)) ∧ w' = w := by
  have e48 : (c == 48) = false := by simp [g48]
  have e45 : (c == 45) = false := by simp [g45]
  have e46 : (c == 46) = false := by simp [g46]
  have e43 : (c == 43) = false := by simp [g43]
  have e101 : (c == 101) = false := by simp [g101]
  have e69 : (c == 69) = false := by simp [g69]
  have hdd : ¬ Dig c := fun h => h1 h.1
  have d1 : decide (48 ≤ c) = false := by simp [h1]
  match st, hst with
  | 0, _ =>
    rw [show stepI 0 c = -1 by simp [stepI, stepN, hdd, g45, g46, g43, g48, g101, g69]]
    go_enter Try.func26, Try.ntmps26
    go_wp2
    go_ret
    exact ⟨rfl, rfl⟩
  | 1, _ =>
    rw [show stepI 1 c = -1 by simp [stepI, stepN, hdd, g45, g46, g43, g48, g101, g69]]
    go_enter Try.func26, Try.ntmps26
    go_wp2
    go_ret
    exact ⟨rfl, rfl⟩
  | 2, _ =>
    rw [show stepI 2 c = -1 by simp [stepI, stepN, hdd, g45, g46, g43, g48, g101, g69]]
    go_enter Try.func26, Try.ntmps26
    go_wp2
    go_ret
    exact ⟨rfl, rfl⟩
  | 3, _ =>
    rw [show stepI 3 c = -1 by simp [stepI, stepN, hdd, g45, g46, g43, g48, g101, g69]]
    go_enter Try.func26, Try.ntmps26
    go_wp2
    go_ret
    exact ⟨rfl, rfl⟩
  | 4, _ =>
    rw [show stepI 4 c = -1 by simp [stepI, stepN, hdd, g45, g46, g43, g48, g101, g69]]
    go_enter Try.func26, Try.ntmps26
    go_wp2
    go_ret
    exact ⟨rfl, rfl⟩
  | 5, _ =>
    rw [show stepI 5 c = -1 by simp [stepI, stepN, hdd, g45, g46, g43, g48, g101, g69]]
    go_enter Try.func26, Try.ntmps26
    go_wp2
    go_ret
    exact ⟨rfl, rfl⟩
  | 6, _ =>
    rw [show stepI 6 c = -1 by simp [stepI, stepN, hdd, g45, g46, g43, g48, g101, g69]]
    go_enter Try.func26, Try.ntmps26
    go_wp2
    go_ret
    exact ⟨rfl, rfl⟩
  | 7, _ =>
    rw [show stepI 7 c = -1 by simp [stepI, stepN, hdd, g45, g46, g43, g48, g101, g69]]
    go_enter Try.func26, Try.ntmps26
    go_wp2
    go_ret
    exact ⟨rfl, rfl⟩
  | 8, _ =>
    rw [show stepI 8 c = -1 by simp [stepI, stepN, hdd, g45, g46, g43, g48, g101, g69]]
    go_enter Try.func26, Try.ntmps26
    go_wp2
    go_ret
    exact ⟨rfl, rfl⟩
set_option maxHeartbeats 2000000 in
theorem step_high (st : Nat) (hst : st ≤ 8) (c : Int) (h1 : 48 ≤ c) (h2 : ¬ c ≤ 57) (g48 : ¬ c = 48) (g45 : ¬ c = 45) (g46 : ¬ c = 46) (g43 : ¬ c = 43) (g101 : ¬ c = 101) (g69 : ¬ c = 69) (w : World) : Calls Try.prog 26 #[.int .i64 st, .int .u8 c] w fun e w' => e = .returned (.int .i64 (stepI st c)) ∧ w' = w := by
  have e48 : (c == 48) = false := by simp [g48]
  have e45 : (c == 45) = false := by simp [g45]
  have e46 : (c == 46) = false := by simp [g46]
  have e43 : (c == 43) = false := by simp [g43]
  have e101 : (c == 101) = false := by simp [g101]
  have e69 : (c == 69) = false := by simp [g69]
  have hdd : ¬ Dig c := fun h => h2 h.2
  have d1 : decide (48 ≤ c) = true := by simp [h1]
  have d2 : decide (c ≤ 57) = false := by simp [h2]
  match st, hst with
  | 0, _ =>
    rw [show stepI 0 c = -1 by simp [stepI, stepN, hdd, g45, g46, g43, g48, g101, g69]]
    go_enter Try.func26, Try.ntmps26
    go_wp2
    go_ret
    exact ⟨rfl, rfl⟩
  | 1, _ =>
    rw [show stepI 1 c = -1 by simp [stepI, stepN, hdd, g45, g46, g43, g48, g101, g69]]
    go_enter Try.func26, Try.ntmps26
    go_wp2
    go_ret
    exact ⟨rfl, rfl⟩
  | 2, _ =>
    rw [show stepI 2 c = -1 by simp [stepI, stepN, hdd, g45, g46, g43, g48, g101, g69]]
    go_enter Try.func26, Try.ntmps26
    go_wp2
    go_ret
    exact ⟨rfl, rfl⟩
  | 3, _ =>
    rw [show stepI 3 c = -1 by simp [stepI, stepN, hdd, g45, g46, g43, g48, g101, g69]]
    go_enter Try.func26, Try.ntmps26
    go_wp2
    go_ret
    exact ⟨rfl, rfl⟩
  | 4, _ =>
    rw [show stepI 4 c = -1 by simp [stepI, stepN, hdd, g45, g46, g43, g48, g101, g69]]
    go_enter Try.func26, Try.ntmps26
    go_wp2
    go_ret
    exact ⟨rfl, rfl⟩
  | 5, _ =>
    rw [show stepI 5 c = -1 by simp [stepI, stepN, hdd, g45, g46, g43, g48, g101, g69]]
    go_enter Try.func26, Try.ntmps26
    go_wp2
    go_ret
    exact ⟨rfl, rfl⟩
  | 6, _ =>
    rw [show stepI 6 c = -1 by simp [stepI, stepN, hdd, g45, g46, g43, g48, g101, g69]]
    go_enter Try.func26, Try.ntmps26
    go_wp2
    go_ret
    exact ⟨rfl, rfl⟩
  | 7, _ =>
    rw [show stepI 7 c = -1 by simp [stepI, stepN, hdd, g45, g46, g43, g48, g101, g69]]
    go_enter Try.func26, Try.ntmps26
    go_wp2
    go_ret
    exact ⟨rfl, rfl⟩
  | 8, _ =>
    rw [show stepI 8 c = -1 by simp [stepI, stepN, hdd, g45, g46, g43, g48, g101, g69]]
    go_enter Try.func26, Try.ntmps26
    go_wp2
    go_ret
    exact ⟨rfl, rfl⟩
theorem step_walk (st : Nat) (hst : st ≤ 8) (c : Int) (w : World) : Calls Try.prog 26 #[.int .i64 st, .int .u8 c] w fun e w' => e = .returned (.int .i64 (stepI st c)) ∧ w' = w := by
  by_cases hc : c = 48 ∨ c = 45 ∨ c = 46 ∨ c = 43 ∨ c = 101 ∨ c = 69
  · exact step_const_walk st hst c hc w
  · simp only [not_or] at hc
    obtain ⟨g48, g45, g46, g43, g101, g69⟩ := hc
    by_cases h1 : 48 ≤ c
    · by_cases h2 : c ≤ 57
      · exact step_dig st hst c h1 h2 g48 g45 g46 g43 g101 g69 w
      · exact step_high st hst c h1 h2 g48 g45 g46 g43 g101 g69 w
    · exact step_low st hst c h1 g48 g45 g46 g43 g101 g69 w
end Go.Proofs.Qxb6601361a
