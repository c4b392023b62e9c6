/- Decimal digits as bytes: plain mathematics. -/
import Derived.Below
namespace Go.Proofs.Qxb6601361a

/-- The number that a list of digit bytes writes. -/
def valL : List Int → Int
  | [] => 0
  | d :: t => (d - 48) * 10 ^ t.length + valL t

def isDig (d : Int) : Prop := 48 ≤ d ∧ d ≤ 57

theorem pow_pos (n : Nat) : (1 : Int) ≤ 10 ^ n := by
  induction n with
  | zero => simp
  | succ n ih => rw [Int.pow_succ]; omega

theorem pow_mono {a b : Nat} (h : a ≤ b) : (10 : Int) ^ a ≤ 10 ^ b := by
  induction b with
  | zero => have : a = 0 := by omega
            subst this; simp
  | succ b ih =>
    by_cases e : a = b + 1
    · subst e; omega
    · have := ih (by omega)
      have := pow_pos b
      rw [Int.pow_succ]
      omega

theorem val_snoc (l : List Int) (d : Int) : valL (l ++ [d]) = 10 * valL l + (d - 48) := by
  induction l with
  | nil => simp [valL]
  | cons x t ih =>
    simp only [List.cons_append, valL, ih, List.length_append, List.length_cons, List.length_nil, Nat.zero_add, Int.pow_succ, Int.mul_add]
    rw [show (x - 48) * (10 ^ t.length * 10) = 10 * ((x - 48) * 10 ^ t.length) by rw [← Int.mul_assoc, Int.mul_comm]]
    omega

theorem val_bd (l : List Int) (h : ∀ d ∈ l, isDig d) : 0 ≤ valL l ∧ valL l < 10 ^ l.length := by
  induction l with
  | nil => simp [valL]
  | cons x t ih =>
    obtain ⟨h0, h1⟩ := ih (fun d hd => h d (by simp [hd]))
    obtain ⟨x0, x1⟩ := h x (by simp)
    have p := pow_pos t.length
    simp only [valL, List.length_cons, Int.pow_succ]
    have e1 : 0 ≤ (x - 48) * 10 ^ t.length := Int.mul_nonneg (by omega) (by omega)
    have e2 : (x - 48) * 10 ^ t.length ≤ 9 * 10 ^ t.length := Int.mul_le_mul_of_nonneg_right (by omega) (by omega)
    omega

/-- One round of the writer: the last digit goes to the front of what is written. -/
theorem val_step (v0 cur : Int) (ds : List Int) (h : v0 = cur * 10 ^ ds.length + valL ds) : v0 = (cur / 10) * 10 ^ (ds.length + 1) + valL ((48 + cur % 10) :: ds) := by
  have e : cur = 10 * (cur / 10) + cur % 10 := by omega
  rw [h, valL, Int.pow_succ]
  rw [show (48 + cur % 10 - 48) = cur % 10 by omega]
  generalize (10 : Int) ^ ds.length = p
  conv => lhs; rw [e]
  rw [Int.add_mul]
  rw [show cur / 10 * (p * 10) = 10 * (cur / 10) * p by rw [Int.mul_comm p 10, ← Int.mul_assoc, Int.mul_comm (cur / 10) 10]]
  omega

theorem len_lt (v0 cur : Int) (ds : List Int) (hb : v0 ≤ 999999999999999999) (hc : 1 ≤ cur) (hd : 0 ≤ valL ds) (h : v0 = cur * 10 ^ ds.length + valL ds) : ds.length < 18 := by
  rcases Nat.lt_or_ge ds.length 18 with h' | h'
  · exact h'
  · have p := pow_mono h'
    have e : (10 : Int) ^ 18 = 1000000000000000000 := by decide
    have m : 1 * 10 ^ ds.length ≤ cur * 10 ^ ds.length := Int.mul_le_mul_of_nonneg_right hc (by have := pow_pos ds.length; omega)
    omega

/-- ds writes v in the plain form. -/
structure Writes (ds : List Int) (v : Int) : Prop where
  dig : ∀ d ∈ ds, isDig d
  pos : 0 < ds.length
  le : ds.length ≤ 18
  val : valL ds = v
end Go.Proofs.Qxb6601361a
