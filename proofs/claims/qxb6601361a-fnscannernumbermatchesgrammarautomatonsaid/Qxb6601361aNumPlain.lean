/- The grammar of numbers, without Go: the table, its paths, and what the scanner's pieces yield. -/
import Derived.Test.Qxb6601361aBytes
namespace Go.Proofs.Qxb6601361a

def Dig (c : Int) : Prop := 48 ≤ c ∧ c ≤ 57
def decDig (c : Int) : Decidable (Dig c) := inferInstanceAs (Decidable (_ ∧ _))
def Sp (c : Int) : Prop := c = 32 ∨ c = 9 ∨ c = 13 ∨ c = 10
def decSp (c : Int) : Decidable (Sp c) := inferInstanceAs (Decidable (_ ∨ _))

/-- The table (b1NumberStep); none where it answers -1. -/
def stepN (st : Nat) (c : Int) : Option Nat :=
  match st with
  | 0 => if c = 45 then some 1 else if c = 48 then some 2 else @ite (Option Nat) (Dig c) (decDig c) (some 3) (none)
  | 1 => if c = 48 then some 2 else @ite (Option Nat) (Dig c) (decDig c) (some 3) (none)
  | 2 => if c = 46 then some 4 else if c = 101 ∨ c = 69 then some 6 else none
  | 3 => @ite (Option Nat) (Dig c) (decDig c) (some 3) (if c = 46 then some 4 else if c = 101 ∨ c = 69 then some 6 else none)
  | 4 => @ite (Option Nat) (Dig c) (decDig c) (some 5) (none)
  | 5 => @ite (Option Nat) (Dig c) (decDig c) (some 5) (if c = 101 ∨ c = 69 then some 6 else none)
  | 6 => if c = 43 ∨ c = 45 then some 7 else @ite (Option Nat) (Dig c) (decDig c) (some 8) (none)
  | 7 => @ite (Option Nat) (Dig c) (decDig c) (some 8) (none)
  | 8 => @ite (Option Nat) (Dig c) (decDig c) (some 8) (none)
  | _ => none
def stepI (st : Nat) (c : Int) : Int := match stepN st c with | some t => (t : Int) | none => -1

theorem stepN_le {st t : Nat} {c : Int} (h : stepN st c = some t) : t ≤ 8 := by
  unfold stepN at h
  repeat' split at h
  all_goals first | (cases h; done) | (simp at h; omega)

/-- From p in state st the table leads in n steps to q in state st'. -/
def PathN (xs : List Int) : Nat → Nat → Nat → Nat → Nat → Prop
  | 0, p, st, q, st' => p = q ∧ st = st'
  | n + 1, p, st, q, st' => ∃ (h : p < xs.length) (t : Nat), stepN st xs[p] = some t ∧ PathN xs n (p + 1) t q st'
/-- From p in state st the table leads to q in state st'. -/
def Path (xs : List Int) (p st q st' : Nat) : Prop := ∃ n, PathN xs n p st q st'
theorem Path.nil {xs : List Int} (p st : Nat) : Path xs p st p st := ⟨0, rfl, rfl⟩
theorem Path.cons {xs : List Int} {p st t q st' : Nat} (h : p < xs.length) (hs : stepN st xs[p] = some t) (hp : Path xs (p + 1) t q st') : Path xs p st q st' := by
  obtain ⟨n, hn⟩ := hp
  exact ⟨n + 1, h, t, hs, hn⟩
theorem PathN.trans {xs : List Int} {q st' r st'' : Nat} (h2 : Path xs q st' r st'') : ∀ {n p st : Nat}, PathN xs n p st q st' → Path xs p st r st''
  | 0, _, _, h => by obtain ⟨rfl, rfl⟩ := h; exact h2
  | n + 1, _, _, h => by
    obtain ⟨h1, t, hs, hp⟩ := h
    exact .cons h1 hs (PathN.trans h2 hp)
theorem Path.trans {xs : List Int} {p st q st' r st'' : Nat} (h : Path xs p st q st') (h2 : Path xs q st' r st'') : Path xs p st r st'' := by
  obtain ⟨n, hn⟩ := h
  exact hn.trans h2
theorem Path.one {xs : List Int} {p st t : Nat} (h : p < xs.length) (hs : stepN st xs[p] = some t) : Path xs p st (p + 1) t := .cons h hs (.nil _ _)
theorem Path.snoc {xs : List Int} {p st q st' t : Nat} (h : Path xs p st q st') (hq : q < xs.length) (hs : stepN st' xs[q] = some t) : Path xs p st (q + 1) t := h.trans (.one hq hs)
theorem PathN.le {xs : List Int} {q st' : Nat} : ∀ {n p st : Nat}, PathN xs n p st q st' → p ≤ q
  | 0, _, _, h => by rw [h.1]; exact Nat.le_refl _
  | n + 1, _, _, h => by
    obtain ⟨_, _, _, hp⟩ := h
    have := PathN.le hp
    omega
theorem Path.le {xs : List Int} {p st q st' : Nat} (h : Path xs p st q st') : p ≤ q := by
  obtain ⟨n, hn⟩ := h
  exact hn.le
def Stuck (xs : List Int) (q st : Nat) : Prop := xs.length ≤ q ∨ ∃ h : q < xs.length, stepN st xs[q] = none
theorem PathN.det {xs : List Int} {q st' r st'' : Nat} (hs : Stuck xs q st') (hs2 : Stuck xs r st'') : ∀ {n m p st : Nat}, PathN xs n p st q st' → PathN xs m p st r st'' → q = r ∧ st' = st''
  | 0, 0, _, _, h, h2 => ⟨h.1.symm.trans h2.1, h.2.symm.trans h2.2⟩
  | 0, m + 1, _, _, h, h2 => by
    obtain ⟨rfl, rfl⟩ := h
    obtain ⟨hp, t, hst, _⟩ := h2
    rcases hs with hs | ⟨_, hs⟩
    · omega
    · rw [hs] at hst; cases hst
  | n + 1, 0, _, _, h, h2 => by
    obtain ⟨rfl, rfl⟩ := h2
    obtain ⟨hp, t, hst, _⟩ := h
    rcases hs2 with hs2 | ⟨_, hs2⟩
    · omega
    · rw [hs2] at hst; cases hst
  | n + 1, m + 1, _, _, h, h2 => by
    obtain ⟨hp, t, hst, h3⟩ := h
    obtain ⟨hp2, t2, hst2, h4⟩ := h2
    rw [hst] at hst2
    cases hst2
    exact PathN.det hs hs2 h3 h4
theorem Path.det {xs : List Int} {p st q st' r st'' : Nat} (h : Path xs p st q st') (hs : Stuck xs q st') (h2 : Path xs p st r st'') (hs2 : Stuck xs r st'') : q = r ∧ st' = st'' := by
  obtain ⟨n, hn⟩ := h
  obtain ⟨m, hm⟩ := h2
  exact PathN.det hs hs2 hn hm

def Acc (st : Nat) : Bool := decide (st = 2 ∨ st = 3 ∨ st = 5 ∨ st = 8)

/-- The digits from i on end at j. -/
def DigRun (xs : List Int) (i j : Nat) : Prop := i ≤ j ∧ j ≤ xs.length ∧ (∀ k (h : k < xs.length), i ≤ k → k < j → Dig xs[k]) ∧ ∀ h : j < xs.length, ¬ Dig xs[j]
theorem DigRun.path {xs : List Int} {i j st : Nat} (h : DigRun xs i j) (hst : ∀ c, Dig c → stepN st c = some st) : Path xs i st j st := by
  obtain ⟨h1, h2, h3, -⟩ := h
  obtain ⟨d, rfl⟩ : ∃ d, j = i + d := ⟨j - i, by omega⟩
  clear h1
  induction d with
  | zero => exact .nil _ _
  | succ d ih => exact (ih (by omega) (fun k hk h4 h5 => h3 k hk h4 (by omega))).snoc (by omega) (hst _ (h3 (i + d) (by omega) (by omega) (by omega)))
theorem DigRun.path1 {xs : List Int} {i j st st0 : Nat} (h : DigRun xs i j) (hij : i < j) (h0 : ∀ c, Dig c → stepN st0 c = some st) (hst : ∀ c, Dig c → stepN st c = some st) : Path xs i st0 j st := by
  obtain ⟨h1, h2, h3, h4⟩ := h
  exact .cons (by omega) (h0 _ (h3 i (by omega) (by omega) hij)) (DigRun.path ⟨by omega, h2, fun k hk h5 h6 => h3 k hk (by omega) h6, h4⟩ hst)

/-- The white space from i on ends at j (i may lie behind the text). -/
def SpRun (xs : List Int) (i j : Nat) : Prop := i ≤ j ∧ (∀ k, i ≤ k → k < j → ∃ h : k < xs.length, Sp xs[k]) ∧ ∀ h : j < xs.length, ¬ Sp xs[j]
theorem SpRun.det {xs : List Int} {i j k : Nat} (h1 : SpRun xs i j) (h2 : SpRun xs i k) : j = k := by
  obtain ⟨a1, a2, a3⟩ := h1
  obtain ⟨b1, b2, b3⟩ := h2
  rcases Nat.lt_trichotomy j k with h | h | h
  · obtain ⟨hl, hs⟩ := b2 j a1 h; exact absurd hs (a3 hl)
  · exact h
  · obtain ⟨hl, hs⟩ := a2 k b1 h; exact absurd hs (b3 hl)

/-- What number answers from p on: the number's end, or none. -/
def Reads (xs : List Int) (p : Nat) (o : Option Nat) : Prop := ∃ q st, Path xs p 0 q st ∧ Stuck xs q st ∧ o = if Acc st = true then some q else none
theorem Reads.good {xs : List Int} {p q st : Nat} (h : Path xs p 0 q st) (hs : Stuck xs q st) (ha : Acc st = true) : Reads xs p (some q) := ⟨q, st, h, hs, by rw [if_pos ha]⟩
theorem Reads.bad {xs : List Int} {p q st : Nat} (h : Path xs p 0 q st) (hs : Stuck xs q st) (ha : Acc st = false) : Reads xs p none := ⟨q, st, h, hs, by rw [if_neg (by rw [ha]; exact Bool.false_ne_true)]⟩
theorem Reads.of {xs : List Int} {p q st : Nat} {o : Option Nat} (h : Reads xs p o) (hp : Path xs p 0 q st) (hs : Stuck xs q st) : o = if Acc st = true then some q else none := by
  obtain ⟨q', st', h1, h2, ho⟩ := h
  obtain ⟨rfl, rfl⟩ := h1.det h2 hp hs
  exact ho
end Go.Proofs.Qxb6601361a
