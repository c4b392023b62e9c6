/- b1CompareBytes (24). -/
import Derived.Test.Qxb6601361aBytes
namespace Go.Proofs.Qxb6601361a
open Go.RowKit

/-- A []byte value, nil or not, that holds xs. -/
def BV (w : World) (v : Value) (xs : List Int) : Prop := ∃ ao cap, v = .slice ao xs.length cap ∧ (xs = [] ∨ ∃ b o, ao = some ⟨b, o, none⟩ ∧ b < w.heap.size ∧ Lies w b o xs)

theorem BV.below {w w' : World} {v : Value} {xs : List Int} (h : BV w v xs) (hb : Below w.heap.size w w') : BV w' v xs := by
  obtain ⟨ao, cap, h1, h2⟩ := h
  refine ⟨ao, cap, h1, ?_⟩
  rcases h2 with h2 | ⟨b, o, h3, h4, h5⟩
  · exact Or.inl h2
  · exact Or.inr ⟨b, o, h3, Nat.lt_of_lt_of_le h4 hb.size, h5.below hb h4⟩
theorem BV.keep {w w' : World} {v : Value} {xs : List Int} (h : BV w v xs) (hs : w.heap.size ≤ w'.heap.size) (hb : ∀ k, k < w.heap.size → w'.heap[k]? = w.heap[k]?) : BV w' v xs := by
  obtain ⟨ao, cap, h1, h2⟩ := h
  refine ⟨ao, cap, h1, ?_⟩
  rcases h2 with h2 | ⟨b, o, h3, h4, h5⟩
  · exact Or.inl h2
  · exact Or.inr ⟨b, o, h3, by omega, fun i hi => (World.cell?_of_block (w := w) (a := ⟨b, o + i, none⟩) (hb b h4)).trans (h5 i hi)⟩

/-- The order of byte strings. -/
def cmpB : List Int → List Int → Int
  | [], [] => 0
  | [], _ :: _ => -1
  | _ :: _, [] => 1
  | x :: xs, y :: ys => if x < y then -1 else if y < x then 1 else cmpB xs ys

theorem cmp_drop (xs ys : List Int) (k : Nat) (h1 : k < xs.length) (h2 : k < ys.length) : cmpB (xs.drop k) (ys.drop k) = if xs[k] < ys[k] then -1 else if ys[k] < xs[k] then 1 else cmpB (xs.drop (k + 1)) (ys.drop (k + 1)) := by
  rw [List.drop_eq_getElem_cons h1, List.drop_eq_getElem_cons h2, cmpB]
theorem cmp_end (xs ys : List Int) (k : Nat) (h : xs.length ≤ k ∨ ys.length ≤ k) (h1 : k ≤ xs.length) (h2 : k ≤ ys.length) : cmpB (xs.drop k) (ys.drop k) = if xs.length < ys.length then -1 else if ys.length < xs.length then 1 else 0 := by
  rcases h with h | h
  · have e : k = xs.length := by omega
    subst e
    rw [List.drop_of_length_le (Nat.le_refl _)]
    by_cases e : ys.length = xs.length
    · rw [List.drop_of_length_le (by omega)]; simp [cmpB, e]
    · rw [List.drop_eq_getElem_cons (show xs.length < ys.length by omega), cmpB, if_pos (by omega)]
  · have e : k = ys.length := by omega
    subst e
    rw [List.drop_of_length_le (l := ys) (Nat.le_refl _)]
    by_cases e : ys.length = xs.length
    · rw [List.drop_of_length_le (by omega)]; simp [cmpB, e]
    · rw [List.drop_eq_getElem_cons (show ys.length < xs.length by omega), cmpB, if_neg (by omega), if_pos (by omega)]

theorem dd2 (w : World) (a b : Nat) : ∃ n, (w.drewN a).drewN b = w.drewN n := ⟨a + b, by rw [World.drewN_drewN]⟩
theorem dd3 (w : World) (a b c : Nat) : ∃ n, ((w.drewN a).drewN b).drewN c = w.drewN n := ⟨a + (b + c), by rw [World.drewN_drewN, World.drewN_drewN]⟩

set_option maxHeartbeats 1000000 in
theorem cmp_some (b1 o1 c1 b2 o2 c2 : Nat) (xs ys : List Int) (n1 n2 : Nat) (w : World) (hn1 : n1 = xs.length) (hn2 : n2 = ys.length) (m1 : n1 ≤ 1048576) (_m2 : n2 ≤ 1048576) (h1 : Lies w b1 o1 xs) (h2 : Lies w b2 o2 ys) :
    Calls Try.prog 24 #[.slice (some ⟨b1, o1, none⟩) n1 c1, .slice (some ⟨b2, o2, none⟩) n2 c2] w fun e w' => e = .returned (.int .i64 (cmpB xs ys)) ∧ ∃ nq, w' = w.drewN nq := by
  have H1 : Hid (n1 = xs.length) := hn1
  have H2 : Hid (n2 = ys.length) := hn2
  clear hn1 hn2
  go_enter Try.func24, Try.ntmps24
  go_wp2
  go_loopw [5] (fun i wr => ∃ k : Nat, k ≤ n1 ∧ k ≤ n2 ∧ i = .int .i64 k ∧ Hid (cmpB xs ys = cmpB (xs.drop k) (ys.drop k)) ∧ ∃ nq, wr = w.drewN nq) (fun i _ => n1 - (intOf i).toNat)
  case atStart => exact ⟨0, Nat.zero_le _, Nat.zero_le _, rfl, by simp [Hid], 0, rfl⟩
  case round =>
    obtain ⟨k, hk1, hk2, rfl, hc, nq, rfl⟩ := hrel
    by_cases hlt : k < n1 ∧ k < n2
    · obtain ⟨l1, l2⟩ := hlt
      have k1 : k < xs.length := by have := H1.out; omega
      have k2 : k < ys.length := by have := H2.out; omega
      have e1 := h1 k k1
      have e2 := h2 k k2
      have hd := cmp_drop xs ys k k1 k2
      obtain ⟨x, hx⟩ : ∃ x, xs[k] = x := ⟨_, rfl⟩
      obtain ⟨y, hy⟩ : ∃ y, ys[k] = y := ⟨_, rfl⟩
      rw [hx] at e1 hd
      rw [hy] at e2 hd
      have HD : Hid (cmpB (xs.drop k) (ys.drop k) = if x < y then -1 else if y < x then 1 else cmpB (xs.drop (k + 1)) (ys.drop (k + 1))) := hd
      clear hd hx hy
      have q1 : (k : Int) < (n1 : Int) := by omega
      have q2 : (k : Int) < (n2 : Int) := by omega
      by_cases hxy : x < y
      · go_wp2
        go_quiet (fail)
        go_wp2
        go_ret
        exact ⟨by rw [hc.out, HD.out, if_pos hxy]; rfl, dd2 _ _ _⟩
      · have dxy : decide (x < y) = false := decide_eq_false hxy
        by_cases hyx : y < x
        · go_wp2
          go_quiet (fail)
          go_wp2
          go_quiet (fail)
          go_wp2
          go_ret
          exact ⟨by rw [hc.out, HD.out, if_neg (by omega), if_pos hyx]; rfl, dd3 _ _ _ _⟩
        · have dyx : decide (y < x) = false := decide_eq_false hyx
          go_wp2
          go_quiet (fail)
          go_wp2
          go_quiet (fail)
          go_wp2
          go_roundw
          case rel => exact ⟨k + 1, by omega, by omega, by go_num, by show _ = _; rw [hc.out, HD.out, if_neg (by omega), if_neg (by omega)], _, rfl⟩
          case measure => simp [intOf]; omega
    · have he := cmp_end xs ys k (by have := H1.out; have := H2.out; omega) (by have := H1.out; omega) (by have := H2.out; omega)
      rw [← H1.out, ← H2.out] at he
      have HE : Hid (cmpB (xs.drop k) (ys.drop k) = if n1 < n2 then -1 else if n2 < n1 then 1 else 0) := he
      clear he
      by_cases q1 : (k : Int) < (n1 : Int)
      · have q2 : decide ((k : Int) < (n2 : Int)) = false := decide_eq_false (by omega)
        have q3 : n2 < n1 := by omega
        have q4 : decide ((n1 : Int) < (n2 : Int)) = false := decide_eq_false (by omega)
        have q5 : (n2 : Int) < (n1 : Int) := by omega
        go_wp2
        go_ret
        exact ⟨by rw [hc.out, HE.out, if_neg (by omega), if_pos q3]; rfl, _, rfl⟩
      · have q2 : decide ((k : Int) < (n1 : Int)) = false := decide_eq_false q1
        by_cases q3 : n1 < n2
        · have q5 : (n1 : Int) < (n2 : Int) := by omega
          go_wp2
          go_ret
          exact ⟨by rw [hc.out, HE.out, if_pos q3]; rfl, _, rfl⟩
        · have q4 : decide ((n1 : Int) < (n2 : Int)) = false := decide_eq_false (by omega)
          have q5 : decide ((n2 : Int) < (n1 : Int)) = false := decide_eq_false (by omega)
          go_wp2
          go_ret
          exact ⟨by rw [hc.out, HE.out, if_neg q3, if_neg (by omega)]; rfl, _, rfl⟩

theorem cmp_nil (xs : List Int) : cmpB xs [] = if 0 < xs.length then 1 else 0 := by cases xs <;> simp [cmpB]
theorem cmp_nil' (ys : List Int) : cmpB [] ys = if 0 < ys.length then -1 else 0 := by cases ys <;> simp [cmpB]

/-- One of the two is empty: no byte is read. -/
theorem cmp_flat (a1 a2 : Option Addr) (n1 c1 n2 c2 : Nat) (w : World) (h : n1 = 0 ∨ n2 = 0) :
    Calls Try.prog 24 #[.slice a1 n1 c1, .slice a2 n2 c2] w fun e w' => e = .returned (.int .i64 (if n1 < n2 then -1 else if n2 < n1 then 1 else 0)) ∧ w' = w := by
  by_cases h1 : n1 = 0
  · subst h1
    by_cases h2 : n2 = 0
    · subst h2
      rw [if_neg (by omega), if_neg (by omega)]
      go_enter Try.func24, Try.ntmps24
      go_wp2
      go_rounds 1
      go_ret
      exact ⟨rfl, rfl⟩
    · rw [if_pos (by omega)]
      have q : (0 : Int) < (n2 : Int) := by omega
      go_enter Try.func24, Try.ntmps24
      go_wp2
      go_rounds 1
      go_ret
      exact ⟨rfl, rfl⟩
  · obtain rfl : n2 = 0 := by omega
    rw [if_neg (by omega), if_pos (by omega)]
    have q : (0 : Int) < (n1 : Int) := by omega
    have q2 : decide ((n1 : Int) < 0) = false := decide_eq_false (by omega)
    go_enter Try.func24, Try.ntmps24
    go_wp2
    go_rounds 1
    go_ret
    exact ⟨rfl, rfl⟩

theorem cmp_any (v1 v2 : Value) (xs ys : List Int) (w : World) (h1 : BV w v1 xs) (h2 : BV w v2 ys) (m1 : xs.length ≤ 1048576) (m2 : ys.length ≤ 1048576) :
    Calls Try.prog 24 #[v1, v2] w fun e w' => e = .returned (.int .i64 (cmpB xs ys)) ∧ ∃ nq, w' = w.drewN nq := by
  obtain ⟨a1, c1, rfl, h1⟩ := h1
  obtain ⟨a2, c2, rfl, h2⟩ := h2
  rcases h1 with rfl | ⟨b1, o1, rfl, _, l1⟩
  · refine (cmp_flat a1 a2 _ c1 _ c2 w (Or.inl rfl)).mono ?_
    rintro e w' ⟨he, hw⟩
    refine ⟨?_, 0, hw⟩
    rw [he, cmp_nil']
    simp
  · rcases h2 with rfl | ⟨b2, o2, rfl, _, l2⟩
    · refine (cmp_flat _ a2 _ c1 _ c2 w (Or.inr rfl)).mono ?_
      rintro e w' ⟨he, hw⟩
      refine ⟨?_, 0, hw⟩
      rw [he, cmp_nil]
      simp
    · exact cmp_some b1 o1 c1 b2 o2 c2 xs ys _ _ w rfl rfl m1 m2 l1 l2
end Go.Proofs.Qxb6601361a
