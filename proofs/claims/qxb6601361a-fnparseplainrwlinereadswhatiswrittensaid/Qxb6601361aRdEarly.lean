import Derived.Test.Qxb6601361aRdMain
namespace Go.Proofs.Qxb6601361a
open Go.RowKit

set_option maxRecDepth 100000 in
set_option maxHeartbeats 1000000 in
theorem no_a (wr : Bool) (a b c d : Int) (w : World)  (ha : ¬ (0 ≤ a ∧ a ≤ 999999999999999999)) :
    Calls Try.prog 6 #[.bool wr, .int .i64 a, .int .i64 b, .int .i64 c, .int .i64 d] w fun e w' => e = .returned (.bool true) ∧ Below w.heap.size w w' := by
  have fa := fits_any a
  rw [decide_eq_false ha] at fa
  go_enter Try.func6, Try.ntmps6
  go_wp2_with fail
  refine (fa _).mono ?_
  rintro e w9 ⟨rfl, hw9⟩
  subst w9
  clear fa
  go_wp2
  go_ret
  exact ⟨rfl, Below.refl _ _⟩

set_option maxRecDepth 100000 in
set_option maxHeartbeats 1000000 in
theorem no_b (wr : Bool) (a b c d : Int) (w : World) (ha : 0 ≤ a ∧ a ≤ 999999999999999999) (hb : ¬ (0 ≤ b ∧ b ≤ 999999999999999999)) :
    Calls Try.prog 6 #[.bool wr, .int .i64 a, .int .i64 b, .int .i64 c, .int .i64 d] w fun e w' => e = .returned (.bool true) ∧ Below w.heap.size w w' := by
  have fa := fits_any a
  rw [decide_eq_true ha] at fa
  have fb := fits_any b
  rw [decide_eq_false hb] at fb
  go_enter Try.func6, Try.ntmps6
  go_wp2_with fail
  refine (fa _).mono ?_
  rintro e w9 ⟨rfl, hw9⟩
  subst w9
  go_wp2_with fail
  refine (fb _).mono ?_
  rintro e w9 ⟨rfl, hw9⟩
  subst w9
  clear fa fb
  go_wp2
  go_ret
  exact ⟨rfl, Below.refl _ _⟩

set_option maxRecDepth 100000 in
set_option maxHeartbeats 1000000 in
theorem no_c (wr : Bool) (a b c d : Int) (w : World) (ha : 0 ≤ a ∧ a ≤ 999999999999999999) (hb : 0 ≤ b ∧ b ≤ 999999999999999999) (hc : ¬ (0 ≤ c ∧ c ≤ 999999999999999999)) :
    Calls Try.prog 6 #[.bool wr, .int .i64 a, .int .i64 b, .int .i64 c, .int .i64 d] w fun e w' => e = .returned (.bool true) ∧ Below w.heap.size w w' := by
  have fa := fits_any a
  rw [decide_eq_true ha] at fa
  have fb := fits_any b
  rw [decide_eq_true hb] at fb
  have fc := fits_any c
  rw [decide_eq_false hc] at fc
  go_enter Try.func6, Try.ntmps6
  go_wp2_with fail
  refine (fa _).mono ?_
  rintro e w9 ⟨rfl, hw9⟩
  subst w9
  go_wp2_with fail
  refine (fb _).mono ?_
  rintro e w9 ⟨rfl, hw9⟩
  subst w9
  go_wp2_with fail
  refine (fc _).mono ?_
  rintro e w9 ⟨rfl, hw9⟩
  subst w9
  clear fa fb fc
  go_wp2
  go_ret
  exact ⟨rfl, Below.refl _ _⟩

set_option maxRecDepth 100000 in
set_option maxHeartbeats 1000000 in
theorem no_d (a b c d : Int) (w : World) (ha : 0 ≤ a ∧ a ≤ 999999999999999999) (hb : 0 ≤ b ∧ b ≤ 999999999999999999) (hc : 0 ≤ c ∧ c ≤ 999999999999999999) (hd : ¬ (0 ≤ d ∧ d ≤ 999999999999999999)) :
    Calls Try.prog 6 #[.bool false, .int .i64 a, .int .i64 b, .int .i64 c, .int .i64 d] w fun e w' => e = .returned (.bool true) ∧ Below w.heap.size w w' := by
  have fa := fits_any a
  rw [decide_eq_true ha] at fa
  have fb := fits_any b
  rw [decide_eq_true hb] at fb
  have fc := fits_any c
  rw [decide_eq_true hc] at fc
  have fd := fits_any d
  rw [decide_eq_false hd] at fd
  go_enter Try.func6, Try.ntmps6
  go_wp2_with fail
  refine (fa _).mono ?_
  rintro e w9 ⟨rfl, hw9⟩
  subst w9
  go_wp2_with fail
  refine (fb _).mono ?_
  rintro e w9 ⟨rfl, hw9⟩
  subst w9
  go_wp2_with fail
  refine (fc _).mono ?_
  rintro e w9 ⟨rfl, hw9⟩
  subst w9
  go_wp2_with fail
  refine (fd _).mono ?_
  rintro e w9 ⟨rfl, hw9⟩
  subst w9
  clear fa fb fc fd
  go_wp2
  go_ret
  exact ⟨rfl, Below.refl _ _⟩

set_option maxRecDepth 100000 in
set_option maxHeartbeats 1000000 in
theorem no_d1 (a b c d : Int) (w : World) (ha : 0 ≤ a ∧ a ≤ 999999999999999999) (hb : 0 ≤ b ∧ b ≤ 999999999999999999) (hc : 0 ≤ c ∧ c ≤ 999999999999999999) (hd : ¬ (0 ≤ d ∧ d ≤ 999999999999999999)) (hd1 : (d == -1) = false) :
    Calls Try.prog 6 #[.bool true, .int .i64 a, .int .i64 b, .int .i64 c, .int .i64 d] w fun e w' => e = .returned (.bool true) ∧ Below w.heap.size w w' := by
  have fa := fits_any a
  rw [decide_eq_true ha] at fa
  have fb := fits_any b
  rw [decide_eq_true hb] at fb
  have fc := fits_any c
  rw [decide_eq_true hc] at fc
  have fd := fits_any d
  rw [decide_eq_false hd] at fd
  go_enter Try.func6, Try.ntmps6
  go_wp2_with fail
  refine (fa _).mono ?_
  rintro e w9 ⟨rfl, hw9⟩
  subst w9
  go_wp2_with fail
  refine (fb _).mono ?_
  rintro e w9 ⟨rfl, hw9⟩
  subst w9
  go_wp2_with fail
  refine (fc _).mono ?_
  rintro e w9 ⟨rfl, hw9⟩
  subst w9
  go_wp2_with fail
  refine (fd _).mono ?_
  rintro e w9 ⟨rfl, hw9⟩
  subst w9
  clear fa fb fc fd
  go_wp2
  go_ret
  exact ⟨rfl, Below.refl _ _⟩

end Go.Proofs.Qxb6601361a
