/- The plain mathematics of the stable merge sort by names. -/
import Derived.Test.Qxb6601361aCmp
namespace Go.Proofs.Qxb6601361a

theorem cmp_self (xs : List Int) : cmpB xs xs = 0 := by
  induction xs with
  | nil => rfl
  | cons x t ih => simp [cmpB, ih]
theorem cmp_eq (xs ys : List Int) (h : cmpB xs ys = 0) : xs = ys := by
  induction xs generalizing ys with
  | nil => cases ys with
    | nil => rfl
    | cons y t => simp [cmpB] at h
  | cons x s ih => cases ys with
    | nil => simp [cmpB] at h
    | cons y t =>
      rw [cmpB] at h
      split at h
      · simp at h
      · split at h
        · simp at h
        · rw [ih t h, show x = y by omega]
theorem cmp_swap (xs ys : List Int) : cmpB ys xs = - cmpB xs ys := by
  induction xs generalizing ys with
  | nil => cases ys <;> simp [cmpB]
  | cons x s ih => cases ys with
    | nil => simp [cmpB]
    | cons y t =>
      simp only [cmpB]
      split
      · rw [if_neg (by omega)]
        try rfl
      · split
        · simp
        · exact ih t
theorem cmp_vals (xs ys : List Int) : cmpB xs ys = -1 ∨ cmpB xs ys = 0 ∨ cmpB xs ys = 1 := by
  induction xs generalizing ys with
  | nil => cases ys <;> simp [cmpB]
  | cons x s ih => cases ys with
    | nil => simp [cmpB]
    | cons y t =>
      simp only [cmpB]
      split
      · simp
      · split
        · simp
        · exact ih t
theorem cmp_trans (xs ys zs : List Int) (h1 : cmpB xs ys < 0) (h2 : cmpB ys zs < 0) : cmpB xs zs < 0 := by
  induction xs generalizing ys zs with
  | nil => cases zs with
    | nil => cases ys <;> simp [cmpB] at h1 h2
    | cons z u => simp [cmpB]
  | cons x s ih => cases ys with
    | nil => simp [cmpB] at h1
    | cons y t => cases zs with
      | nil => simp [cmpB] at h2
      | cons z u =>
        simp only [cmpB] at h1 h2 ⊢
        by_cases a1 : x < y
        · by_cases a2 : y < z
          · rw [if_pos (by omega)]; decide
          · rw [if_neg a2] at h2
            by_cases a3 : z < y
            · rw [if_pos a3] at h2; simp at h2
            · rw [if_pos (by omega)]; decide
        · rw [if_neg a1] at h1
          by_cases a4 : y < x
          · rw [if_pos a4] at h1; simp at h1
          · rw [if_neg a4] at h1
            have e : x = y := by omega
            subst e
            by_cases a2 : x < z
            · rw [if_pos a2]; decide
            · rw [if_neg a2] at h2 ⊢
              by_cases a3 : z < x
              · rw [if_pos a3] at h2; simp at h2
              · rw [if_neg a3] at h2 ⊢
                exact ih t u h1 h2

/-- The stable order of indices by their names. -/
def leI (N : Nat → List Int) (x y : Nat) : Bool := decide (cmpB (N x) (N y) < 0 ∨ (cmpB (N x) (N y) = 0 ∧ x ≤ y))

theorem leI_iff {N : Nat → List Int} {x y : Nat} : leI N x y = true ↔ (cmpB (N x) (N y) < 0 ∨ (cmpB (N x) (N y) = 0 ∧ x ≤ y)) := by simp [leI]
theorem leI_trans (N : Nat → List Int) (a b c : Nat) (h1 : leI N a b = true) (h2 : leI N b c = true) : leI N a c = true := by
  rw [leI_iff] at *
  rcases h1 with h1 | ⟨h1, h1'⟩
  · rcases h2 with h2 | ⟨h2, _⟩
    · exact Or.inl (cmp_trans _ _ _ h1 h2)
    · rw [← cmp_eq _ _ h2]; exact Or.inl h1
  · rw [cmp_eq _ _ h1]
    rcases h2 with h2 | ⟨h2, h2'⟩
    · exact Or.inl h2
    · exact Or.inr ⟨h2, by omega⟩
theorem leI_total (N : Nat → List Int) (a b : Nat) : (leI N a b || leI N b a) = true := by
  have h := cmp_swap (N a) (N b)
  rw [Bool.or_eq_true, leI_iff, leI_iff]
  rcases cmp_vals (N a) (N b) with e | e | e <;> omega
/-- Left of the middle and right of it: the text's own test. -/
theorem leI_lt (N : Nat → List Int) (x y : Nat) (h : x < y) : leI N x y = decide (cmpB (N x) (N y) ≤ 0) := by
  rw [Bool.eq_iff_iff, leI_iff, decide_eq_true_eq]
  omega

/-- A segment in order that holds just the indices lo .. hi-1. -/
def Seg (N : Nat → List Int) (l : List Nat) (lo hi : Nat) : Prop := l.Pairwise (fun a b => leI N a b = true) ∧ l.Perm (List.range' lo (hi - lo))

theorem Seg.len {N : Nat → List Int} {l : List Nat} {lo hi : Nat} (h : Seg N l lo hi) : l.length = hi - lo := by rw [h.2.length_eq, List.length_range']
theorem Seg.mem {N : Nat → List Int} {l : List Nat} {lo hi x : Nat} (h : Seg N l lo hi) (hx : x ∈ l) : lo ≤ x ∧ x < hi := by
  have := h.2.mem_iff.1 hx
  rw [List.mem_range'_1] at this
  omega
theorem Seg.merge {N : Nat → List Int} {l r : List Nat} {lo mid hi : Nat} (hl : Seg N l lo mid) (hr : Seg N r mid hi) (h1 : lo ≤ mid) (h2 : mid ≤ hi) : Seg N (l.merge r (leI N)) lo hi := by
  refine ⟨List.pairwise_merge (leI_trans N) (leI_total N) l r hl.1 hr.1, (List.merge_perm_append _).trans ((hl.2.append hr.2).trans ?_)⟩
  have : List.range' lo (mid - lo) ++ List.range' (lo + (mid - lo)) (hi - mid) = List.range' lo ((mid - lo) + (hi - mid)) := List.range'_append_1
  rw [show lo + (mid - lo) = mid by omega, show (mid - lo) + (hi - mid) = hi - lo by omega] at this
  rw [this]
theorem Seg.one (N : Nat → List Int) (m : Nat) : Seg N [m] m (m + 1) := ⟨by simp, by rw [show m + 1 - m = 1 by omega]; exact List.Perm.refl _⟩
theorem Seg.empty (N : Nat → List Int) (m : Nat) : Seg N [] m m := ⟨by simp, by rw [show m - m = 0 by omega]; exact List.Perm.refl _⟩

/-- Every block of width W is a segment. -/
def Blocks (N : Nat → List Int) (W n : Nat) (A : List Nat) : Prop := A.length = n ∧ ∀ m, m * W < n → Seg N ((A.drop (m * W)).take W) (m * W) (min (m * W + W) n)

theorem blocks_one (N : Nat → List Int) (n : Nat) : Blocks N 1 n (List.range n) := by
  refine ⟨by simp, fun m hm => ?_⟩
  rw [Nat.mul_one] at hm ⊢
  rw [show min (m + 1) n = m + 1 by omega, List.drop_eq_getElem_cons (by simpa using hm)]
  simp
  exact Seg.one N m

theorem blocks_end {N : Nat → List Int} {W n : Nat} {A : List Nat} (h : Blocks N W n A) (hW : n ≤ W) : Seg N A 0 n := by
  by_cases h0 : n = 0
  · subst h0
    have : A = [] := by cases A with
      | nil => rfl
      | cons x t => have := h.1; simp at this
    rw [this]
    exact Seg.empty N 0
  · have := h.2 0 (by omega)
    simp only [Nat.zero_mul, List.drop_zero, Nat.zero_add] at this
    rw [List.take_of_length_le (by rw [h.1]; exact hW), show min W n = n by omega] at this
    exact this

/-- The blocks that have been merged so far, and one more. -/
theorem blocks_snoc {N : Nat → List Int} {W q n : Nat} {D l : List Nat} (hW : 0 < W) (h : Blocks N W (q * W) D) (hl : Seg N l (q * W) (min (q * W + W) n)) (hq : q * W < n) : Blocks N W (min (q * W + W) n) (D ++ l) := by
  have hlen := hl.len
  refine ⟨by rw [List.length_append, h.1, hlen]; omega, fun m hm => ?_⟩
  by_cases e : m = q
  · subst e
    rw [List.drop_append, h.1, Nat.sub_self, List.drop_zero, List.drop_of_length_le (by rw [h.1]; omega), List.nil_append, List.take_of_length_le (by rw [hlen]; omega)]
    rw [show min (m * W + W) (min (m * W + W) n) = min (m * W + W) n by omega]
    exact hl
  · have hmq : m < q := by
      rcases Nat.lt_or_ge m q with h' | h'
      · exact h'
      · have : (q + 1) * W ≤ m * W := Nat.mul_le_mul_right W (by omega)
        rw [Nat.add_mul] at this
        omega
    have hmm : (m + 1) * W ≤ q * W := Nat.mul_le_mul_right W (by omega)
    rw [Nat.add_mul, Nat.one_mul] at hmm
    have hs := h.2 m (by omega)
    rw [List.drop_append_of_le_length (by rw [h.1]; omega), List.take_append_of_le_length (by rw [List.length_drop, h.1]; omega)]
    rw [show min (m * W + W) (min (q * W + W) n) = min (m * W + W) (q * W) by omega]
    exact hs
theorem blocks_nil (N : Nat → List Int) (W : Nat) : Blocks N W (0 * W) [] := by
  rw [Nat.zero_mul]
  exact ⟨rfl, fun m hm => absurd hm (by omega)⟩

/-- An earlier index bears the same name. -/
def rep (N : Nat → List Int) (i : Nat) : Bool := (List.range i).any fun j => decide (N j = N i)
theorem rep_iff {N : Nat → List Int} {i : Nat} : rep N i = true ↔ ∃ j, j < i ∧ N j = N i := by simp [rep]

theorem rep_sorted {N : Nat → List Int} {A : List Nat} {n : Nat} (h : Seg N A 0 n) (k : Nat) (hk : k < A.length) : rep N A[k] = (if k = 0 then false else decide (cmpB (N (A.getD (k - 1) 0)) (N A[k]) = 0)) := by
  have hnd : A.Nodup := h.2.nodup_iff.2 List.nodup_range'
  have hpw := List.pairwise_iff_getElem.1 h.1
  have hlt : A[k] < n := (h.mem (List.getElem_mem hk)).2
  rw [Bool.eq_iff_iff, rep_iff]
  constructor
  · rintro ⟨j, hj, hN⟩
    have hjA : j ∈ A := h.2.mem_iff.2 (by rw [List.mem_range'_1]; omega)
    obtain ⟨p, hp, rfl⟩ := List.getElem_of_mem hjA
    have hpk : p < k := by
      rcases Nat.lt_trichotomy p k with h1 | h1 | h1
      · exact h1
      · subst h1; omega
      · have := leI_iff.1 (hpw k p hk hp h1)
        rw [hN, cmp_self] at this
        omega
    rw [if_neg (by omega), decide_eq_true_eq]
    have e1 : k - 1 < A.length := by omega
    rw [List.getD_eq_getElem?_getD, List.getElem?_eq_getElem e1, Option.getD_some]
    have h2 := leI_iff.1 (hpw (k - 1) k e1 hk (by omega))
    rcases h2 with h2 | h2
    · exfalso
      by_cases e : p = k - 1
      · subst e
        rw [hN, cmp_self] at h2
        omega
      · have h3 := leI_iff.1 (hpw p (k - 1) hp e1 (by omega))
        have h4 : cmpB (N A[p]) (N A[k]) < 0 := by
          rcases h3 with h3 | ⟨h3, _⟩
          · exact cmp_trans _ _ _ h3 h2
          · rw [cmp_eq _ _ h3]; exact h2
        rw [hN, cmp_self] at h4
        omega
    · exact h2.1
  · intro hh
    by_cases e : k = 0
    · rw [if_pos e] at hh; cases hh
    · rw [if_neg e, decide_eq_true_eq] at hh
      have e1 : k - 1 < A.length := by omega
      rw [List.getD_eq_getElem?_getD, List.getElem?_eq_getElem e1, Option.getD_some] at hh
      have h2 := leI_iff.1 (hpw (k - 1) k e1 hk (by omega))
      refine ⟨A[k - 1], ?_, cmp_eq _ _ hh⟩
      have hne : A[k - 1] ≠ A[k] := (List.pairwise_iff_getElem.1 hnd) (k - 1) k e1 hk (by omega)
      omega
end Go.Proofs.Qxb6601361a
