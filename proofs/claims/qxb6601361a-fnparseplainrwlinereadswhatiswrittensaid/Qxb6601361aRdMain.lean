import Derived.Test.Qxb6601361aRead
namespace Go.Proofs.Qxb6601361a
open Go.RowKit

theorem at_left {w : World} {g o : Nat} {xs ys : List Int} (h : At w g o (xs ++ ys)) : At w g o xs := fun i hi => by
  have := h i (by rw [List.length_append]; omega)
  rw [List.getElem_append_left hi] at this
  exact this
theorem at_right {w : World} {g o : Nat} {xs ys : List Int} (h : At w g o (xs ++ ys)) : At w g (o + xs.length) ys := fun i hi => by
  have := h (xs.length + i) (by rw [List.length_append]; omega)
  rw [List.getElem_append_right (by omega)] at this
  simp only [Nat.add_sub_cancel_left] at this
  rw [← Nat.add_assoc] at this
  exact this
theorem at_one {w : World} {g o : Nat} {c : Int} (h : At w g o [c]) : w.cell? ⟨g, o, none⟩ = some (.int .u8 c) := h 0 (by simp)

def segs (A B C E : List Int) : Nat → List Int
  | 0 => A
  | 1 => B
  | 2 => C
  | _ => E
def poss (A B C E : List Int) : Nat → Nat
  | 0 => 2
  | 1 => 2 + A.length + 1
  | 2 => 2 + A.length + 1 + B.length + 1
  | 3 => 2 + A.length + 1 + B.length + 1 + C.length + 1
  | _ => 2 + A.length + 1 + B.length + 1 + C.length + 1 + E.length + 1

theorem line_of {w : World} {g n : Nat} {k0 : Int} {A B C E : List Int} (h : At w g 0 ([] ++ [k0] ++ [40] ++ A ++ [44] ++ B ++ [44] ++ C ++ [44] ++ E ++ [41])) (hn : ([] ++ [k0] ++ [40] ++ A ++ [44] ++ B ++ [44] ++ C ++ [44] ++ E ++ [41]).length = n) :
    Line w g n k0 (segs A B C E) (poss A B C E) := by
  have hbyte : ∀ j, j < n → ∃ v, w.cell? ⟨g, j, none⟩ = some (.int .u8 v) := fun j hj => ⟨_, by have := h j (by omega); rw [Nat.zero_add] at this; exact this⟩
  simp only [List.length_append, List.length_cons, List.length_nil] at hn
  have a10 := at_one (at_right h)
  have h9 := at_left h
  have a9 := at_right h9
  have h8 := at_left h9
  have a8 := at_one (at_right h8)
  have h7 := at_left h8
  have a7 := at_right h7
  have h6 := at_left h7
  have a6 := at_one (at_right h6)
  have h5 := at_left h6
  have a5 := at_right h5
  have h4 := at_left h5
  have a4 := at_one (at_right h4)
  have h3 := at_left h4
  have a3 := at_right h3
  have h2 := at_left h3
  have a2 := at_one (at_right h2)
  have h1 := at_left h2
  have a1 := at_one (at_right h1)
  simp only [List.length_append, List.length_cons, List.length_nil, Nat.zero_add, Nat.reduceAdd] at a1 a2 a3 a4 a5 a6 a7 a8 a9 a10
  refine ⟨rfl, fun f hf => ?_, ?_, a1, a2, fun f hf => ?_, fun f hf => ?_, ?_, hbyte⟩
  · match f, hf with
    | 0, _ | 1, _ | 2, _ | 3, _ => rfl
    | k + 4, h => exact absurd h (by omega)
  · show 2 + A.length + 1 + B.length + 1 + C.length + 1 + E.length + 1 = n
    omega
  · match f, hf with
    | 0, _ => exact a3
    | 1, _ => exact a5
    | 2, _ => exact a7
    | 3, _ => exact a9
    | k + 4, h => exact absurd h (by omega)
  · match f, hf with
    | 0, _ => exact a4
    | 1, _ => exact a6
    | 2, _ => exact a8
    | k + 3, h => exact absurd h (by omega)
  · exact a10

def vals (a b c d : Int) : Nat → Int
  | 0 => a
  | 1 => b
  | 2 => c
  | _ => d

theorem size2 (w : World) : (sizeOf 2).run Try.prog w = .ok 1 w := by kernel_rfl
theorem part0 (a b c d : Int) (w : World) : (part 2 #[.int .i64 a, .int .i64 b, .int .i64 c, .int .i64 d] 0).run Try.prog w = .ok (.int .i64 a) w := by kernel_rfl
theorem part1 (a b c d : Int) (w : World) : (part 2 #[.int .i64 a, .int .i64 b, .int .i64 c, .int .i64 d] 1).run Try.prog w = .ok (.int .i64 b) w := by kernel_rfl
theorem part2 (a b c d : Int) (w : World) : (part 2 #[.int .i64 a, .int .i64 b, .int .i64 c, .int .i64 d] 2).run Try.prog w = .ok (.int .i64 c) w := by kernel_rfl
theorem part3 (a b c d : Int) (w : World) : (part 2 #[.int .i64 a, .int .i64 b, .int .i64 c, .int .i64 d] 3).run Try.prog w = .ok (.int .i64 d) w := by kernel_rfl
theorem eq35 (a b c d : Int) (w : World) : (Op.equalIn 10000 35 (.agg #[.int .i64 a, .int .i64 b, .int .i64 c, .int .i64 d]) (.agg #[.int .i64 a, .int .i64 b, .int .i64 c, .int .i64 d])).run Try.prog w = .ok true w := by
  have h : ∀ x, (Op.equalIn 9999 2 (.int .i64 x) (.int .i64 x)).run Try.prog w = .ok true w := fun x => by
    rw [run_equalIn_int w 9998 2 .i64 .i64 x x Try.underlying2]; simp
  have hr : List.range' 0 4 1 = [0, 1, 2, 3] := rfl
  rw [show (10000 : Nat) = 9999 + 1 from rfl, Op.equalIn]
  simp only [Sem.run_bind, run_underlying Try.underlying35, Result.andThen_ok, size2, Std.Legacy.Range.forIn_eq_forIn_range', Std.Legacy.Range.size, Nat.sub_zero, Nat.add_sub_cancel, Nat.div_one, hr, List.forIn_cons, List.forIn_nil, Nat.mul_one, part0, part1, part2, part3, h, Bool.not_true, Bool.false_eq_true, if_false, Sem.run_pure]

set_option maxRecDepth 100000 in
set_option maxHeartbeats 2000000 in
theorem rd_read (a b c d : Int) (w : World) (a0 : 0 ≤ a) (a1 : a ≤ 999999999999999999) (b0 : 0 ≤ b) (b1 : b ≤ 999999999999999999) (c0 : 0 ≤ c) (c1 : c ≤ 999999999999999999) (d0 : 0 ≤ d) (d1 : d ≤ 999999999999999999) :
    Calls Try.prog 6 #[.bool false, .int .i64 a, .int .i64 b, .int .i64 c, .int .i64 d] w fun e w' => e = .returned (.bool true) ∧ Below w.heap.size w w' := by
  have fa := fits_any a
  have fb := fits_any b
  have fc := fits_any c
  have fd := fits_any d
  rw [decide_eq_true (⟨a0, a1⟩ : 0 ≤ a ∧ a ≤ 999999999999999999)] at fa
  rw [decide_eq_true (⟨b0, b1⟩ : 0 ≤ b ∧ b ≤ 999999999999999999)] at fb
  rw [decide_eq_true (⟨c0, c1⟩ : 0 ≤ c ∧ c ≤ 999999999999999999)] at fc
  rw [decide_eq_true (⟨d0, d1⟩ : 0 ≤ d ∧ d ≤ 999999999999999999)] at fd
  have hmk := make80
  have hb0 := buf_made w
  go_enter Try.func6, Try.ntmps6
  go_wp2_with fail
  refine (fa _).mono ?_
  rintro e w9 ⟨rfl, hw9⟩
  subst w9
  go_wp2_with fail
  refine (fb _).mono ?_
  rintro e w9 ⟨rfl, hw9⟩
  subst w9
  go_wp2_with fail
  refine (fc _).mono ?_
  rintro e w9 ⟨rfl, hw9⟩
  subst w9
  go_wp2_with fail
  refine (fd _).mono ?_
  rintro e w9 ⟨rfl, hw9⟩
  subst w9
  clear fa fb fc fd
  go_wp2_with (first | (at_builtin; refine wp_app1 w.heap.size 0 80 [] 114 hb0 (by omega) rfl (.tmp 45) (.tmp 46) rfl rfl (w.heap.size + 1) (by simp) rfl ?_; intro g1 cap1 w1 hB1; clear hb0) | (at_builtin; refine wp_app1 _ _ _ _ 40 hB1 (by omega) rfl (.tmp 48) (.tmp 49) rfl rfl _ rfl rfl ?_; intro g2 cap2 w2 hB2; clear hB1))
  refine (dec_buf _ _ _ _ a hB2 (by omega) a0 a1).mono ?_
  rintro e w3 ⟨A, g3, n3, cap3, hWA, hn3, rfl, hB3⟩
  clear hB2
  go_wp2_with (at_builtin; refine wp_app1 _ _ _ _ 44 hB3 (by omega) rfl (.tmp 54) (.tmp 55) rfl rfl _ rfl rfl ?_; intro g4 cap4 w4 hB4; clear hB3)
  refine (dec_buf _ _ _ _ b hB4 (by omega) b0 b1).mono ?_
  rintro e w5 ⟨B, g5, n5, cap5, hWB, hn5, rfl, hB5⟩
  clear hB4
  go_wp2_with (at_builtin; refine wp_app1 _ _ _ _ 44 hB5 (by omega) rfl (.tmp 60) (.tmp 61) rfl rfl _ rfl rfl ?_; intro g6 cap6 w6 hB6; clear hB5)
  refine (dec_buf _ _ _ _ c hB6 (by omega) c0 c1).mono ?_
  rintro e w7 ⟨C, g7, n7, cap7, hWC, hn7, rfl, hB7⟩
  clear hB6
  go_wp2_with (at_builtin; refine wp_app1 _ _ _ _ 44 hB7 (by omega) rfl (.tmp 66) (.tmp 67) rfl rfl _ rfl rfl ?_; intro g8 cap8 w8 hB8; clear hB7)
  refine (dec_buf _ _ _ _ d hB8 (by omega) d0 d1).mono ?_
  rintro e w9 ⟨E, g9, n9, cap9, hWE, hn9, rfl, hB9⟩
  clear hB8
  go_wp2_with (at_builtin; refine wp_app1 _ _ _ _ 41 hB9 (by omega) rfl (.tmp 72) (.tmp 73) rfl rfl _ rfl rfl ?_; intro g10 cap10 w10 hB10; clear hB9)
  clear hmk
  have hz : Calls Try.prog 16 #[.slice (some ⟨g10, 0, none⟩) (n9 + 1) cap10] w10 fun e w' => e = .returned (.tuple #[.int .u8 1, .agg #[.int .i64 a, .int .i64 b, .int .i64 c, .int .i64 d], .bool true]) ∧ Below w10.heap.size w10 w' := by
    have h := zz_parse 1 114 false g10 (n9 + 1) cap10 (segs A B C E) (poss A B C E) (vals a b c d) w10 hB10.lt hB10.cap (by omega) (line_of hB10.at hB10.len) (by decide) (fun f hf => by
      match f, hf with
      | 0, _ => exact hWA
      | 1, _ => exact hWB
      | 2, _ => exact hWC
      | k + 3, h => exact absurd h (by omega)) (Or.inl ⟨rfl, hWE⟩)
    exact h
  refine hz.mono ?_
  rintro e w11 ⟨rfl, hb11⟩
  have hbel : Below w.heap.size w w11 := hB10.bel.trans (hb11.mono hB10.bel.size)
  clear hz hB10 hb11
  have he35 := eq35 a b c d
  go_wp2
  go_ret
  exact ⟨rfl, hbel.alloc hbel.size _⟩

set_option maxRecDepth 100000 in
set_option maxHeartbeats 2000000 in
theorem rd_w (a b c d : Int) (w : World) (a0 : 0 ≤ a) (a1 : a ≤ 999999999999999999) (b0 : 0 ≤ b) (b1 : b ≤ 999999999999999999) (c0 : 0 ≤ c) (c1 : c ≤ 999999999999999999) (d0 : 0 ≤ d) (d1 : d ≤ 999999999999999999) (hb : (b == 0) = false) :
    Calls Try.prog 6 #[.bool true, .int .i64 a, .int .i64 b, .int .i64 c, .int .i64 d] w fun e w' => e = .returned (.bool true) ∧ Below w.heap.size w w' := by
  have fa := fits_any a
  have fb := fits_any b
  have fc := fits_any c
  have fd := fits_any d
  rw [decide_eq_true (⟨a0, a1⟩ : 0 ≤ a ∧ a ≤ 999999999999999999)] at fa
  rw [decide_eq_true (⟨b0, b1⟩ : 0 ≤ b ∧ b ≤ 999999999999999999)] at fb
  rw [decide_eq_true (⟨c0, c1⟩ : 0 ≤ c ∧ c ≤ 999999999999999999)] at fc
  rw [decide_eq_true (⟨d0, d1⟩ : 0 ≤ d ∧ d ≤ 999999999999999999)] at fd
  have hmk := make80
  have hb0 := buf_made w
  have HB : Hid ((b == 0) = false) := hb
  clear hb
  go_enter Try.func6, Try.ntmps6
  go_wp2_with fail
  refine (fa _).mono ?_
  rintro e w9 ⟨rfl, hw9⟩
  subst w9
  go_wp2_with fail
  refine (fb _).mono ?_
  rintro e w9 ⟨rfl, hw9⟩
  subst w9
  go_wp2_with fail
  refine (fc _).mono ?_
  rintro e w9 ⟨rfl, hw9⟩
  subst w9
  go_wp2_with fail
  refine (fd _).mono ?_
  rintro e w9 ⟨rfl, hw9⟩
  subst w9
  clear fa fb fc fd
  go_wp2_with (first | (at_builtin; refine wp_app1 w.heap.size 0 80 [] 119 hb0 (by omega) rfl (.tmp 42) (.tmp 43) rfl rfl (w.heap.size + 1) (by simp) rfl ?_; intro g1 cap1 w1 hB1; clear hb0) | (at_builtin; refine wp_app1 _ _ _ _ 40 hB1 (by omega) rfl (.tmp 48) (.tmp 49) rfl rfl _ rfl rfl ?_; intro g2 cap2 w2 hB2; clear hB1))
  refine (dec_buf _ _ _ _ a hB2 (by omega) a0 a1).mono ?_
  rintro e w3 ⟨A, g3, n3, cap3, hWA, hn3, rfl, hB3⟩
  clear hB2
  go_wp2_with (at_builtin; refine wp_app1 _ _ _ _ 44 hB3 (by omega) rfl (.tmp 54) (.tmp 55) rfl rfl _ rfl rfl ?_; intro g4 cap4 w4 hB4; clear hB3)
  refine (dec_buf _ _ _ _ b hB4 (by omega) b0 b1).mono ?_
  rintro e w5 ⟨B, g5, n5, cap5, hWB, hn5, rfl, hB5⟩
  clear hB4
  go_wp2_with (at_builtin; refine wp_app1 _ _ _ _ 44 hB5 (by omega) rfl (.tmp 60) (.tmp 61) rfl rfl _ rfl rfl ?_; intro g6 cap6 w6 hB6; clear hB5)
  refine (dec_buf _ _ _ _ c hB6 (by omega) c0 c1).mono ?_
  rintro e w7 ⟨C, g7, n7, cap7, hWC, hn7, rfl, hB7⟩
  clear hB6
  go_wp2_with (at_builtin; refine wp_app1 _ _ _ _ 44 hB7 (by omega) rfl (.tmp 66) (.tmp 67) rfl rfl _ rfl rfl ?_; intro g8 cap8 w8 hB8; clear hB7)
  refine (dec_buf _ _ _ _ d hB8 (by omega) d0 d1).mono ?_
  rintro e w9 ⟨E, g9, n9, cap9, hWE, hn9, rfl, hB9⟩
  clear hB8
  go_wp2_with (at_builtin; refine wp_app1 _ _ _ _ 41 hB9 (by omega) rfl (.tmp 72) (.tmp 73) rfl rfl _ rfl rfl ?_; intro g10 cap10 w10 hB10; clear hB9)
  clear hmk
  have hz : Calls Try.prog 16 #[.slice (some ⟨g10, 0, none⟩) (n9 + 1) cap10] w10 fun e w' => e = .returned (.tuple #[.int .u8 2, .agg #[.int .i64 a, .int .i64 b, .int .i64 c, .int .i64 d], .bool true]) ∧ Below w10.heap.size w10 w' := by
    have h := zz_parse 2 119 false g10 (n9 + 1) cap10 (segs A B C E) (poss A B C E) (vals a b c d) w10 hB10.lt hB10.cap (by omega) (line_of hB10.at hB10.len) (by decide) (fun f hf => by
      match f, hf with
      | 0, _ => exact hWA
      | 1, _ => exact hWB
      | 2, _ => exact hWC
      | k + 3, h => exact absurd h (by omega)) (Or.inl ⟨rfl, hWE⟩)
    have hv : (vals a b c d 1 == 0) = false := HB.out
    rw [hv] at h
    exact h
  refine hz.mono ?_
  rintro e w11 ⟨rfl, hb11⟩
  have hbel : Below w.heap.size w w11 := hB10.bel.trans (hb11.mono hB10.bel.size)
  clear hz hB10 hb11
  have he35 := eq35 a b c d
  have hb := HB.out
  go_wp2
  go_ret
  exact ⟨rfl, hbel.alloc hbel.size _⟩

set_option maxRecDepth 100000 in
set_option maxHeartbeats 2000000 in
theorem rd_w0 (a b c d : Int) (w : World) (a0 : 0 ≤ a) (a1 : a ≤ 999999999999999999) (b0 : 0 ≤ b) (b1 : b ≤ 999999999999999999) (c0 : 0 ≤ c) (c1 : c ≤ 999999999999999999) (d0 : 0 ≤ d) (d1 : d ≤ 999999999999999999) (hb : (b == 0) = true) :
    Calls Try.prog 6 #[.bool true, .int .i64 a, .int .i64 b, .int .i64 c, .int .i64 d] w fun e w' => e = .returned (.bool true) ∧ Below w.heap.size w w' := by
  have fa := fits_any a
  have fb := fits_any b
  have fc := fits_any c
  have fd := fits_any d
  rw [decide_eq_true (⟨a0, a1⟩ : 0 ≤ a ∧ a ≤ 999999999999999999)] at fa
  rw [decide_eq_true (⟨b0, b1⟩ : 0 ≤ b ∧ b ≤ 999999999999999999)] at fb
  rw [decide_eq_true (⟨c0, c1⟩ : 0 ≤ c ∧ c ≤ 999999999999999999)] at fc
  rw [decide_eq_true (⟨d0, d1⟩ : 0 ≤ d ∧ d ≤ 999999999999999999)] at fd
  have hmk := make80
  have hb0 := buf_made w
  have HB : Hid ((b == 0) = true) := hb
  clear hb
  go_enter Try.func6, Try.ntmps6
  go_wp2_with fail
  refine (fa _).mono ?_
  rintro e w9 ⟨rfl, hw9⟩
  subst w9
  go_wp2_with fail
  refine (fb _).mono ?_
  rintro e w9 ⟨rfl, hw9⟩
  subst w9
  go_wp2_with fail
  refine (fc _).mono ?_
  rintro e w9 ⟨rfl, hw9⟩
  subst w9
  go_wp2_with fail
  refine (fd _).mono ?_
  rintro e w9 ⟨rfl, hw9⟩
  subst w9
  clear fa fb fc fd
  go_wp2_with (first | (at_builtin; refine wp_app1 w.heap.size 0 80 [] 119 hb0 (by omega) rfl (.tmp 42) (.tmp 43) rfl rfl (w.heap.size + 1) (by simp) rfl ?_; intro g1 cap1 w1 hB1; clear hb0) | (at_builtin; refine wp_app1 _ _ _ _ 40 hB1 (by omega) rfl (.tmp 48) (.tmp 49) rfl rfl _ rfl rfl ?_; intro g2 cap2 w2 hB2; clear hB1))
  refine (dec_buf _ _ _ _ a hB2 (by omega) a0 a1).mono ?_
  rintro e w3 ⟨A, g3, n3, cap3, hWA, hn3, rfl, hB3⟩
  clear hB2
  go_wp2_with (at_builtin; refine wp_app1 _ _ _ _ 44 hB3 (by omega) rfl (.tmp 54) (.tmp 55) rfl rfl _ rfl rfl ?_; intro g4 cap4 w4 hB4; clear hB3)
  refine (dec_buf _ _ _ _ b hB4 (by omega) b0 b1).mono ?_
  rintro e w5 ⟨B, g5, n5, cap5, hWB, hn5, rfl, hB5⟩
  clear hB4
  go_wp2_with (at_builtin; refine wp_app1 _ _ _ _ 44 hB5 (by omega) rfl (.tmp 60) (.tmp 61) rfl rfl _ rfl rfl ?_; intro g6 cap6 w6 hB6; clear hB5)
  refine (dec_buf _ _ _ _ c hB6 (by omega) c0 c1).mono ?_
  rintro e w7 ⟨C, g7, n7, cap7, hWC, hn7, rfl, hB7⟩
  clear hB6
  go_wp2_with (at_builtin; refine wp_app1 _ _ _ _ 44 hB7 (by omega) rfl (.tmp 66) (.tmp 67) rfl rfl _ rfl rfl ?_; intro g8 cap8 w8 hB8; clear hB7)
  refine (dec_buf _ _ _ _ d hB8 (by omega) d0 d1).mono ?_
  rintro e w9 ⟨E, g9, n9, cap9, hWE, hn9, rfl, hB9⟩
  clear hB8
  go_wp2_with (at_builtin; refine wp_app1 _ _ _ _ 41 hB9 (by omega) rfl (.tmp 72) (.tmp 73) rfl rfl _ rfl rfl ?_; intro g10 cap10 w10 hB10; clear hB9)
  clear hmk
  have hz : Calls Try.prog 16 #[.slice (some ⟨g10, 0, none⟩) (n9 + 1) cap10] w10 fun e w' => e = .returned (.tuple #[.int .u8 0, .agg #[.int .i64 a, .int .i64 b, .int .i64 c, .int .i64 d], .bool false]) ∧ Below w10.heap.size w10 w' := by
    have h := zz_parse 2 119 false g10 (n9 + 1) cap10 (segs A B C E) (poss A B C E) (vals a b c d) w10 hB10.lt hB10.cap (by omega) (line_of hB10.at hB10.len) (by decide) (fun f hf => by
      match f, hf with
      | 0, _ => exact hWA
      | 1, _ => exact hWB
      | 2, _ => exact hWC
      | k + 3, h => exact absurd h (by omega)) (Or.inl ⟨rfl, hWE⟩)
    have hv : (vals a b c d 1 == 0) = true := HB.out
    rw [hv] at h
    exact h
  refine hz.mono ?_
  rintro e w11 ⟨rfl, hb11⟩
  have hbel : Below w.heap.size w w11 := hB10.bel.trans (hb11.mono hB10.bel.size)
  clear hz hB10 hb11
  have hb := HB.out
  go_wp2
  go_ret
  exact ⟨rfl, hbel.alloc hbel.size _⟩

set_option maxRecDepth 100000 in
set_option maxHeartbeats 2000000 in
theorem rd_n (a b c : Int) (w : World) (a0 : 0 ≤ a) (a1 : a ≤ 999999999999999999) (b0 : 0 ≤ b) (b1 : b ≤ 999999999999999999) (c0 : 0 ≤ c) (c1 : c ≤ 999999999999999999) (hb : (b == 0) = false) :
    Calls Try.prog 6 #[.bool true, .int .i64 a, .int .i64 b, .int .i64 c, .int .i64 (-1)] w fun e w' => e = .returned (.bool true) ∧ Below w.heap.size w w' := by
  have fa := fits_any a
  have fb := fits_any b
  have fc := fits_any c
  have fd := fits_any (-1)
  rw [decide_eq_true (⟨a0, a1⟩ : 0 ≤ a ∧ a ≤ 999999999999999999)] at fa
  rw [decide_eq_true (⟨b0, b1⟩ : 0 ≤ b ∧ b ≤ 999999999999999999)] at fb
  rw [decide_eq_true (⟨c0, c1⟩ : 0 ≤ c ∧ c ≤ 999999999999999999)] at fc
  rw [decide_eq_false (by omega : ¬ ((0 : Int) ≤ -1 ∧ (-1 : Int) ≤ 999999999999999999))] at fd
  have hmk := make80
  have hb0 := buf_made w
  have HB : Hid ((b == 0) = false) := hb
  clear hb
  go_enter Try.func6, Try.ntmps6
  go_wp2_with fail
  refine (fa _).mono ?_
  rintro e w9 ⟨rfl, hw9⟩
  subst w9
  go_wp2_with fail
  refine (fb _).mono ?_
  rintro e w9 ⟨rfl, hw9⟩
  subst w9
  go_wp2_with fail
  refine (fc _).mono ?_
  rintro e w9 ⟨rfl, hw9⟩
  subst w9
  go_wp2_with fail
  refine (fd _).mono ?_
  rintro e w9 ⟨rfl, hw9⟩
  subst w9
  clear fa fb fc fd
  go_wp2_with (first | (at_builtin; refine wp_app1 w.heap.size 0 80 [] 119 hb0 (by omega) rfl (.tmp 42) (.tmp 43) rfl rfl (w.heap.size + 1) (by simp) rfl ?_; intro g1 cap1 w1 hB1; clear hb0) | (at_builtin; refine wp_app1 _ _ _ _ 40 hB1 (by omega) rfl (.tmp 48) (.tmp 49) rfl rfl _ rfl rfl ?_; intro g2 cap2 w2 hB2; clear hB1))
  refine (dec_buf _ _ _ _ a hB2 (by omega) a0 a1).mono ?_
  rintro e w3 ⟨A, g3, n3, cap3, hWA, hn3, rfl, hB3⟩
  clear hB2
  go_wp2_with (at_builtin; refine wp_app1 _ _ _ _ 44 hB3 (by omega) rfl (.tmp 54) (.tmp 55) rfl rfl _ rfl rfl ?_; intro g4 cap4 w4 hB4; clear hB3)
  refine (dec_buf _ _ _ _ b hB4 (by omega) b0 b1).mono ?_
  rintro e w5 ⟨B, g5, n5, cap5, hWB, hn5, rfl, hB5⟩
  clear hB4
  go_wp2_with (at_builtin; refine wp_app1 _ _ _ _ 44 hB5 (by omega) rfl (.tmp 60) (.tmp 61) rfl rfl _ rfl rfl ?_; intro g6 cap6 w6 hB6; clear hB5)
  refine (dec_buf _ _ _ _ c hB6 (by omega) c0 c1).mono ?_
  rintro e w7 ⟨C, g7, n7, cap7, hWC, hn7, rfl, hB7⟩
  clear hB6
  go_wp2_with (at_builtin; refine wp_app1 _ _ _ _ 44 hB7 (by omega) rfl (.tmp 66) (.tmp 67) rfl rfl _ rfl rfl ?_; intro g8 cap8 w8 hB8; clear hB7)
  refine (dec_buf_neg _ _ _ _ hB8 (by omega)).mono ?_
  rintro e w9 ⟨g9, n9, cap9, hn9, rfl, hB9⟩
  clear hB8
  go_wp2_with (at_builtin; refine wp_app1 _ _ _ _ 41 hB9 (by omega) rfl (.tmp 72) (.tmp 73) rfl rfl _ rfl rfl ?_; intro g10 cap10 w10 hB10; clear hB9)
  clear hmk
  have hz : Calls Try.prog 16 #[.slice (some ⟨g10, 0, none⟩) (n9 + 1) cap10] w10 fun e w' => e = .returned (.tuple #[.int .u8 2, .agg #[.int .i64 a, .int .i64 b, .int .i64 c, .int .i64 (-1)], .bool true]) ∧ Below w10.heap.size w10 w' := by
    have h := zz_parse 2 119 true g10 (n9 + 1) cap10 (segs A B C [45, 49]) (poss A B C [45, 49]) (vals a b c (-1)) w10 hB10.lt hB10.cap (by omega) (line_of hB10.at hB10.len) (by decide) (fun f hf => by
      match f, hf with
      | 0, _ => exact hWA
      | 1, _ => exact hWB
      | 2, _ => exact hWC
      | k + 3, h => exact absurd h (by omega)) (Or.inr ⟨rfl, rfl, rfl, rfl⟩)
    have hv : (vals a b c (-1) 1 == 0) = false := HB.out
    rw [hv] at h
    exact h
  refine hz.mono ?_
  rintro e w11 ⟨rfl, hb11⟩
  have hbel : Below w.heap.size w w11 := hB10.bel.trans (hb11.mono hB10.bel.size)
  clear hz hB10 hb11
  have he35 := eq35 a b c (-1)
  have hb := HB.out
  go_wp2
  go_ret
  exact ⟨rfl, hbel.alloc hbel.size _⟩

set_option maxRecDepth 100000 in
set_option maxHeartbeats 2000000 in
theorem rd_n0 (a b c : Int) (w : World) (a0 : 0 ≤ a) (a1 : a ≤ 999999999999999999) (b0 : 0 ≤ b) (b1 : b ≤ 999999999999999999) (c0 : 0 ≤ c) (c1 : c ≤ 999999999999999999) (hb : (b == 0) = true) :
    Calls Try.prog 6 #[.bool true, .int .i64 a, .int .i64 b, .int .i64 c, .int .i64 (-1)] w fun e w' => e = .returned (.bool true) ∧ Below w.heap.size w w' := by
  have fa := fits_any a
  have fb := fits_any b
  have fc := fits_any c
  have fd := fits_any (-1)
  rw [decide_eq_true (⟨a0, a1⟩ : 0 ≤ a ∧ a ≤ 999999999999999999)] at fa
  rw [decide_eq_true (⟨b0, b1⟩ : 0 ≤ b ∧ b ≤ 999999999999999999)] at fb
  rw [decide_eq_true (⟨c0, c1⟩ : 0 ≤ c ∧ c ≤ 999999999999999999)] at fc
  rw [decide_eq_false (by omega : ¬ ((0 : Int) ≤ -1 ∧ (-1 : Int) ≤ 999999999999999999))] at fd
  have hmk := make80
  have hb0 := buf_made w
  have HB : Hid ((b == 0) = true) := hb
  clear hb
  go_enter Try.func6, Try.ntmps6
  go_wp2_with fail
  refine (fa _).mono ?_
  rintro e w9 ⟨rfl, hw9⟩
  subst w9
  go_wp2_with fail
  refine (fb _).mono ?_
  rintro e w9 ⟨rfl, hw9⟩
  subst w9
  go_wp2_with fail
  refine (fc _).mono ?_
  rintro e w9 ⟨rfl, hw9⟩
  subst w9
  go_wp2_with fail
  refine (fd _).mono ?_
  rintro e w9 ⟨rfl, hw9⟩
  subst w9
  clear fa fb fc fd
  go_wp2_with (first | (at_builtin; refine wp_app1 w.heap.size 0 80 [] 119 hb0 (by omega) rfl (.tmp 42) (.tmp 43) rfl rfl (w.heap.size + 1) (by simp) rfl ?_; intro g1 cap1 w1 hB1; clear hb0) | (at_builtin; refine wp_app1 _ _ _ _ 40 hB1 (by omega) rfl (.tmp 48) (.tmp 49) rfl rfl _ rfl rfl ?_; intro g2 cap2 w2 hB2; clear hB1))
  refine (dec_buf _ _ _ _ a hB2 (by omega) a0 a1).mono ?_
  rintro e w3 ⟨A, g3, n3, cap3, hWA, hn3, rfl, hB3⟩
  clear hB2
  go_wp2_with (at_builtin; refine wp_app1 _ _ _ _ 44 hB3 (by omega) rfl (.tmp 54) (.tmp 55) rfl rfl _ rfl rfl ?_; intro g4 cap4 w4 hB4; clear hB3)
  refine (dec_buf _ _ _ _ b hB4 (by omega) b0 b1).mono ?_
  rintro e w5 ⟨B, g5, n5, cap5, hWB, hn5, rfl, hB5⟩
  clear hB4
  go_wp2_with (at_builtin; refine wp_app1 _ _ _ _ 44 hB5 (by omega) rfl (.tmp 60) (.tmp 61) rfl rfl _ rfl rfl ?_; intro g6 cap6 w6 hB6; clear hB5)
  refine (dec_buf _ _ _ _ c hB6 (by omega) c0 c1).mono ?_
  rintro e w7 ⟨C, g7, n7, cap7, hWC, hn7, rfl, hB7⟩
  clear hB6
  go_wp2_with (at_builtin; refine wp_app1 _ _ _ _ 44 hB7 (by omega) rfl (.tmp 66) (.tmp 67) rfl rfl _ rfl rfl ?_; intro g8 cap8 w8 hB8; clear hB7)
  refine (dec_buf_neg _ _ _ _ hB8 (by omega)).mono ?_
  rintro e w9 ⟨g9, n9, cap9, hn9, rfl, hB9⟩
  clear hB8
  go_wp2_with (at_builtin; refine wp_app1 _ _ _ _ 41 hB9 (by omega) rfl (.tmp 72) (.tmp 73) rfl rfl _ rfl rfl ?_; intro g10 cap10 w10 hB10; clear hB9)
  clear hmk
  have hz : Calls Try.prog 16 #[.slice (some ⟨g10, 0, none⟩) (n9 + 1) cap10] w10 fun e w' => e = .returned (.tuple #[.int .u8 0, .agg #[.int .i64 a, .int .i64 b, .int .i64 c, .int .i64 (-1)], .bool false]) ∧ Below w10.heap.size w10 w' := by
    have h := zz_parse 2 119 true g10 (n9 + 1) cap10 (segs A B C [45, 49]) (poss A B C [45, 49]) (vals a b c (-1)) w10 hB10.lt hB10.cap (by omega) (line_of hB10.at hB10.len) (by decide) (fun f hf => by
      match f, hf with
      | 0, _ => exact hWA
      | 1, _ => exact hWB
      | 2, _ => exact hWC
      | k + 3, h => exact absurd h (by omega)) (Or.inr ⟨rfl, rfl, rfl, rfl⟩)
    have hv : (vals a b c (-1) 1 == 0) = true := HB.out
    rw [hv] at h
    exact h
  refine hz.mono ?_
  rintro e w11 ⟨rfl, hb11⟩
  have hbel : Below w.heap.size w w11 := hB10.bel.trans (hb11.mono hB10.bel.size)
  clear hz hB10 hb11
  have hb := HB.out
  go_wp2
  go_ret
  exact ⟨rfl, hbel.alloc hbel.size _⟩
end Go.Proofs.Qxb6601361a
