/- The plain mathematics of the histories: no Go in sight. -/
import Derived.Test.Qxb6601294aTake3
namespace Go.Proofs.Qxb6601294a

structure Hb where
  id : Int
  s : Int
  r : Int

/-- The greatest f of a list; 0 of the empty one (as the Go text has it). -/
def mx (f : Hb → Int) : List Hb → Int
  | [] => 0
  | x :: t => t.foldl (fun m y => if m < f y then f y else m) (f x)

theorem mx_snoc (f : Hb → Int) (l : List Hb) (x : Hb) : mx f (l ++ [x]) = if l = [] then f x else if mx f l < f x then f x else mx f l := by
  cases l with
  | nil => simp [mx]
  | cons y t =>
    rw [if_neg (by simp)]
    show (t ++ [x]).foldl _ _ = _
    rw [List.foldl_append]
    rfl

theorem foldl_le (f : Hb → Int) (t : List Hb) (m c : Int) : (t.foldl (fun m y => if m < f y then f y else m) m < c) ↔ (m < c ∧ ∀ y ∈ t, f y < c) := by
  induction t generalizing m with
  | nil => simp
  | cons y t ih =>
    rw [List.foldl_cons, ih]
    simp only [List.mem_cons, forall_eq_or_imp]
    split
    · constructor
      · rintro ⟨a, b⟩; exact ⟨by omega, a, b⟩
      · rintro ⟨a, b, c⟩; exact ⟨b, c⟩
    · constructor
      · rintro ⟨a, b⟩; exact ⟨a, by omega, b⟩
      · rintro ⟨a, b, c⟩; exact ⟨a, c⟩

theorem mx_lt (f : Hb → Int) (l : List Hb) (hl : l ≠ []) (c : Int) : mx f l < c ↔ ∀ y ∈ l, f y < c := by
  cases l with
  | nil => exact absurd rfl hl
  | cons y t => simp only [mx, foldl_le, List.mem_cons, forall_eq_or_imp]

/-- What the history's answer is (runClass). -/
def cls (l : List Hb) (h : Hb) : Int := ftA (mx Hb.id l) (mx Hb.s l) (!l.isEmpty) h.id h.s
/-- What the history becomes (runJoin). -/
def joinL (l : List Hb) (h : Hb) (a : Int) : List Hb := if a = 2 then [h] else l ++ [h]

theorem join_ne (l : List Hb) (h : Hb) (a : Int) : joinL l h a ≠ [] := by unfold joinL; split <;> simp
theorem join_len (l : List Hb) (h : Hb) (a : Int) : (joinL l h a).length ≤ l.length + 1 := by unfold joinL; split <;> simp

theorem join_mx (l : List Hb) (h : Hb) (hc : cls l h ≠ 0) :
    mx Hb.id (joinL l h (cls l h)) = ftId (mx Hb.id l) (mx Hb.s l) (!l.isEmpty) h.id h.s ∧ mx Hb.s (joinL l h (cls l h)) = ftSent (mx Hb.id l) (mx Hb.s l) (!l.isEmpty) h.id h.s := by
  cases l with
  | nil => simp [joinL, cls, ftA, ftId, ftSent, mx]
  | cons y t =>
    unfold cls at hc ⊢
    simp only [List.isEmpty_cons, Bool.not_false] at hc ⊢
    generalize hi : mx Hb.id (y :: t) = m at hc ⊢
    generalize hs : mx Hb.s (y :: t) = q at hc ⊢
    by_cases h1 : m < h.id
    · simp only [ftA, ftId, ftSent, joinL, h1, if_true, if_neg (show ¬ (true = false) by decide), if_neg (show ¬ ((1 : Int) = 2) by decide), mx_snoc, hi, hs, if_neg (show ¬ (y :: t = []) by simp)]
      refine ⟨trivial, ?_⟩
      split <;> omega
    · by_cases h2 : q < h.s
      · simp [ftA, ftId, ftSent, joinL, h1, h2, mx]
      · simp [ftA, h1, h2] at hc

/-- The four ways of a round, in the histories' words. -/
theorem it_del (del riv : List Hb) (news : Int) (h : Hb) (hc : cls del h ≠ 0) :
    itake (mx Hb.id del) (mx Hb.s del) (!del.isEmpty) (mx Hb.id riv) (mx Hb.s riv) (!riv.isEmpty) news h.id h.s =
      ⟨cls del h, mx Hb.id (joinL del h (cls del h)), mx Hb.s (joinL del h (cls del h)), 0, 0, false, 0⟩ := by
  obtain ⟨e1, e2⟩ := join_mx del h hc
  rw [e1, e2]
  unfold itake
  rw [if_pos (show ftA (mx Hb.id del) (mx Hb.s del) (!del.isEmpty) h.id h.s ≠ 0 from hc)]
  rfl

theorem it_old (del riv : List Hb) (news : Int) (h : Hb) (hc : cls del h = 0) (hge : mx Hb.id del ≤ h.id) :
    itake (mx Hb.id del) (mx Hb.s del) (!del.isEmpty) (mx Hb.id riv) (mx Hb.s riv) (!riv.isEmpty) news h.id h.s =
      ⟨0, mx Hb.id del, mx Hb.s del, mx Hb.id riv, mx Hb.s riv, !riv.isEmpty, news⟩ := by
  unfold itake
  rw [if_neg (by rw [show ftA _ _ _ _ _ = 0 from hc]; simp), if_pos hge]

theorem it_same (del riv : List Hb) (news : Int) (h : Hb) (hc : cls del h = 0) (hlt : h.id < mx Hb.id del) (hr : cls riv h = 0) :
    itake (mx Hb.id del) (mx Hb.s del) (!del.isEmpty) (mx Hb.id riv) (mx Hb.s riv) (!riv.isEmpty) news h.id h.s =
      ⟨0, mx Hb.id del, mx Hb.s del, mx Hb.id riv, mx Hb.s riv, true, news⟩ := by
  unfold itake
  rw [if_neg (by rw [show ftA _ _ _ _ _ = 0 from hc]; simp), if_neg (by omega), if_pos (show ftA _ _ _ _ _ = 0 from hr)]

theorem it_news (del riv : List Hb) (news : Int) (h : Hb) (hc : cls del h = 0) (hlt : h.id < mx Hb.id del) (hr : cls riv h ≠ 0) (hn : news < 9) :
    itake (mx Hb.id del) (mx Hb.s del) (!del.isEmpty) (mx Hb.id riv) (mx Hb.s riv) (!riv.isEmpty) news h.id h.s =
      ⟨0, mx Hb.id del, mx Hb.s del, mx Hb.id (joinL riv h (cls riv h)), mx Hb.s (joinL riv h (cls riv h)), true, news + 1⟩ := by
  obtain ⟨e1, e2⟩ := join_mx riv h hr
  rw [e1, e2]
  unfold itake
  rw [if_neg (by rw [show ftA _ _ _ _ _ = 0 from hc]; simp), if_neg (by omega), if_neg (show ¬ ftA _ _ _ _ _ = 0 from hr), if_pos hn]

theorem it_over (del riv : List Hb) (h : Hb) (hc : cls del h = 0) (hlt : h.id < mx Hb.id del) (hr : cls riv h ≠ 0) :
    itake (mx Hb.id del) (mx Hb.s del) (!del.isEmpty) (mx Hb.id riv) (mx Hb.s riv) (!riv.isEmpty) 9 h.id h.s =
      ⟨3, mx Hb.id (joinL riv h (cls riv h)), mx Hb.s (joinL riv h (cls riv h)), 0, 0, false, 0⟩ := by
  obtain ⟨e1, e2⟩ := join_mx riv h hr
  rw [e1, e2]
  unfold itake
  rw [if_neg (by rw [show ftA _ _ _ _ _ = 0 from hc]; simp), if_neg (by omega), if_neg (show ¬ ftA _ _ _ _ _ = 0 from hr), if_neg (by decide)]

theorem cls_zero (l : List Hb) (h : Hb) (hc : cls l h = 0) : l ≠ [] := by
  have := (ft_zero hc).1
  intro e
  subst e
  simp at this

/-- runClass's loop: 'newer' and 'later' over the first k. -/
def allLt (f : Hb → Int) (c : Int) (l : List Hb) : Bool := l.all fun y => decide (f y < c)
theorem allLt_snoc (f : Hb → Int) (c : Int) (l : List Hb) (x : Hb) : allLt f c (l ++ [x]) = (allLt f c l && decide (f x < c)) := by simp [allLt]
theorem allLt_mx (f : Hb → Int) (c : Int) (l : List Hb) (hl : l ≠ []) : allLt f c l = decide (mx f l < c) := by
  rw [Bool.eq_iff_iff]
  simp only [allLt, List.all_eq_true, decide_eq_true_eq]
  exact (mx_lt f l hl c).symm
theorem cls_new (l : List Hb) (h : Hb) (hl : l ≠ []) (h1 : allLt Hb.id h.id l = true) : cls l h = 1 := by
  rw [allLt_mx _ _ _ hl] at h1
  have e : (!l.isEmpty) = true := by cases l <;> simp_all
  simp only [decide_eq_true_eq] at h1
  simp [cls, ftA, e, h1]
theorem cls_late (l : List Hb) (h : Hb) (hl : l ≠ []) (h1 : allLt Hb.id h.id l = false) (h2 : allLt Hb.s h.s l = true) : cls l h = 2 := by
  rw [allLt_mx _ _ _ hl] at h1 h2
  have e : (!l.isEmpty) = true := by cases l <;> simp_all
  simp only [decide_eq_true_eq, decide_eq_false_iff_not] at h1 h2
  simp [cls, ftA, e, h1, h2]
theorem cls_none (l : List Hb) (h : Hb) (hl : l ≠ []) (h1 : allLt Hb.id h.id l = false) (h2 : allLt Hb.s h.s l = false) : cls l h = 0 := by
  rw [allLt_mx _ _ _ hl] at h1 h2
  have e : (!l.isEmpty) = true := by cases l <;> simp_all
  simp only [decide_eq_false_iff_not] at h1 h2
  simp [cls, ftA, e, h1, h2]

theorem take_snoc (l : List Hb) (k : Nat) (h : k < l.length) : l.take (k + 1) = l.take k ++ [l[k]] := by
  rw [List.take_succ_eq_append_getElem h]
end Go.Proofs.Qxb6601294a
