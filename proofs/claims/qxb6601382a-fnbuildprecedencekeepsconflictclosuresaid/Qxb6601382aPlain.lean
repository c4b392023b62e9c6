/- buildPrecedence without Go: the fold over the operations, its bounds, and the count of its edges. -/
import Derived.Test.Qxb6601382aProg
namespace Go.Proofs.Qxb6601382a

/-- One operation. -/
structure POp where
  kind : Int
  txn : Int
  item : ByteArray

/-- What an item's access record holds: the last writer's node (or -1), the readers since. -/
abbrev Items := List UInt8 → Option (Int × List Int)
structure St where
  succ : Nat → List Int
  items : Items

def POp.key (o : POp) : List UInt8 := o.item.data.toList
abbrev POp.skips (ab : Int → Bool) (o : POp) : Prop := ab o.txn = true ∨ (o.kind ≠ 0 ∧ o.kind ≠ 1)

/-- v at the end of succ[r]. -/
def addE (L : Nat → List Int) (r v : Int) : Nat → List Int := fun j => if (j : Int) = r then L j ++ [v] else L j
def add1 (L : Nat → List Int) (r v : Int) : Nat → List Int := if r = v then L else addE L r v
def addAll (L : Nat → List Int) (rs : List Int) (v : Int) : Nat → List Int := rs.foldl (fun L r => add1 L r v) L
def addW (L : Nat → List Int) (wr v : Int) : Nat → List Int := if 0 ≤ wr ∧ wr ≠ v then addE L wr v else L
def setI (I : Items) (k : List UInt8) (p : Int × List Int) : Items := fun x => if x = k then some p else I x
def accOf (I : Items) (k : List UInt8) : Int × List Int := (I k).getD (-1, [])
def addR (rd : List Int) (v : Int) : List Int := if rd.getLast? = some v then rd else rd ++ [v]

def pstep (ab : Int → Bool) (N : Int → Nat) (s : St) (o : POp) : St :=
  if o.skips ab then s
  else if o.kind = 0 then ⟨addW s.succ (accOf s.items o.key).1 (N o.txn), setI s.items o.key ((accOf s.items o.key).1, addR (accOf s.items o.key).2 (N o.txn))⟩
  else ⟨addAll (addW s.succ (accOf s.items o.key).1 (N o.txn)) (accOf s.items o.key).2 (N o.txn), setI s.items o.key (N o.txn, [])⟩
def st0 : St := ⟨fun _ => [], fun _ => none⟩
def prun (ab : Int → Bool) (N : Int → Nat) (ops : List POp) : St := ops.foldl (pstep ab N) st0

theorem prun_snoc (ab : Int → Bool) (N : Int → Nat) (ops : List POp) (o : POp) : prun ab N (ops ++ [o]) = pstep ab N (prun ab N ops) o := by
  simp [prun, List.foldl_append]

/-! ### bounds -/
structure Fits (n i : Nat) (s : St) : Prop where
  len : ∀ j, (s.succ j).length ≤ i * 65537
  item : ∀ k wr rd, s.items k = some (wr, rd) → -1 ≤ wr ∧ wr < n ∧ rd.length ≤ i ∧ ∀ r ∈ rd, 0 ≤ r ∧ r < n

theorem Fits.acc {n i : Nat} {s : St} (h : Fits n i s) (k : List UInt8) : -1 ≤ (accOf s.items k).1 ∧ (accOf s.items k).1 < n ∧ (accOf s.items k).2.length ≤ i ∧ ∀ r ∈ (accOf s.items k).2, 0 ≤ r ∧ r < n := by
  unfold accOf
  cases hk : s.items k with
  | none => refine ⟨by simp, by simp; omega, by simp, by simp⟩
  | some p => obtain ⟨a, b⟩ := p; simpa using h.item k a b hk

theorem addE_len (L : Nat → List Int) (r v : Int) (j : Nat) : (addE L r v j).length ≤ (L j).length + 1 := by
  unfold addE; split <;> simp
theorem add1_len (L : Nat → List Int) (r v : Int) (j : Nat) : (add1 L r v j).length ≤ (L j).length + 1 := by
  unfold add1; split
  · omega
  · exact addE_len L r v j
theorem addW_len (L : Nat → List Int) (r v : Int) (j : Nat) : (addW L r v j).length ≤ (L j).length + 1 := by
  unfold addW; split
  · exact addE_len L r v j
  · omega
theorem addAll_len (rs : List Int) (v : Int) (j : Nat) : ∀ L : Nat → List Int, (addAll L rs v j).length ≤ (L j).length + rs.length := by
  induction rs with
  | nil => intro L; simp [addAll]
  | cons r rs ih =>
    intro L
    have h1 := ih (add1 L r v)
    have h2 := add1_len L r v j
    simp only [addAll, List.foldl_cons, List.length_cons] at h1 ⊢
    omega
theorem addR_len (rd : List Int) (v : Int) : (addR rd v).length ≤ rd.length + 1 := by unfold addR; split <;> simp
theorem addR_mem {rd : List Int} {v r : Int} (h : r ∈ addR rd v) : r ∈ rd ∨ r = v := by
  unfold addR at h; split at h
  · exact Or.inl h
  · simpa using h

theorem Fits.step {n i : Nat} {s : St} (h : Fits n i s) (ab : Int → Bool) (N : Int → Nat) (o : POp) (hi : i < 65536) (hN : ¬ o.skips ab → N o.txn < n) : Fits n (i + 1) (pstep ab N s o) := by
  unfold pstep
  split
  · refine ⟨fun j => Nat.le_trans (h.len j) (Nat.mul_le_mul_right _ (Nat.le_succ i)), fun k wr rd hk => ?_⟩
    obtain ⟨a, b, c, d⟩ := h.item k wr rd hk
    exact ⟨a, b, by omega, d⟩
  next hs =>
    have hv := hN hs
    obtain ⟨a1, a2, a3, a4⟩ := h.acc o.key
    split
    · refine ⟨fun j => ?_, fun k wr rd hk => ?_⟩
      · have := addW_len s.succ (accOf s.items o.key).1 (N o.txn) j
        have := h.len j
        show (addW s.succ (accOf s.items o.key).1 (N o.txn) j).length ≤ _
        omega
      · simp only [setI] at hk
        split at hk
        · simp only [Option.some.injEq, Prod.mk.injEq] at hk
          obtain ⟨rfl, rfl⟩ := hk
          refine ⟨a1, a2, by have := addR_len (accOf s.items o.key).2 (N o.txn); omega, fun r hr => ?_⟩
          rcases addR_mem hr with hr | rfl
          · exact a4 r hr
          · omega
        · obtain ⟨a, b, c, d⟩ := h.item k wr rd hk
          exact ⟨a, b, by omega, d⟩
    · refine ⟨fun j => ?_, fun k wr rd hk => ?_⟩
      · have := addAll_len (accOf s.items o.key).2 (N o.txn) j (addW s.succ (accOf s.items o.key).1 (N o.txn))
        have := addW_len s.succ (accOf s.items o.key).1 (N o.txn) j
        have := h.len j
        show (addAll (addW s.succ (accOf s.items o.key).1 (N o.txn)) (accOf s.items o.key).2 (N o.txn) j).length ≤ _
        omega
      · simp only [setI] at hk
        split at hk
        · simp only [Option.some.injEq, Prod.mk.injEq] at hk
          obtain ⟨rfl, rfl⟩ := hk
          exact ⟨by omega, by omega, by simp, by simp⟩
        · obtain ⟨a, b, c, d⟩ := h.item k wr rd hk
          exact ⟨a, b, by omega, d⟩
theorem fits0 (n : Nat) : Fits n 0 st0 := ⟨fun j => by simp [st0], fun k wr rd hk => by simp [st0] at hk⟩

/-! ### the count of the edges -/
def esum (n : Nat) (L : Nat → List Int) : Nat := ((List.range n).map fun j => (L j).length).sum
theorem sum0 {α : Type} : ∀ l : List α, (l.map fun _ => 0).sum = 0
  | [] => rfl
  | _ :: l => by simp [sum0 l]
theorem esum_succ (n : Nat) (L : Nat → List Int) : esum (n + 1) L = esum n L + (L n).length := by
  simp [esum, List.range_succ]
theorem esum_addE (L : Nat → List Int) (r v : Int) : ∀ n : Nat, esum n (addE L r v) ≤ esum n L + (if r < n then 1 else 0)
  | 0 => by simp [esum]
  | n + 1 => by
    have ih := esum_addE L r v n
    rw [esum_succ, esum_succ]
    have e : (addE L r v n).length = (L n).length + (if (n : Int) = r then 1 else 0) := by
      unfold addE; split <;> simp_all
    rw [e]
    split at ih <;> split <;> (try split) <;> omega
theorem esum_addE1 (L : Nat → List Int) (r v : Int) (n : Nat) : esum n (addE L r v) ≤ esum n L + 1 := by
  have := esum_addE L r v n
  split at this <;> omega
theorem esum_addW (L : Nat → List Int) (r v : Int) (n : Nat) : esum n (addW L r v) ≤ esum n L + 1 := by
  unfold addW; split
  · exact esum_addE1 L r v n
  · omega
theorem esum_addAll (n : Nat) (rs : List Int) (v : Int) : ∀ L : Nat → List Int, esum n (addAll L rs v) ≤ esum n L + rs.length := by
  induction rs with
  | nil => intro L; simp [addAll]
  | cons r rs ih =>
    intro L
    have h1 := ih (add1 L r v)
    have h2 : esum n (add1 L r v) ≤ esum n L + 1 := by
      unfold add1; split
      · omega
      · exact esum_addE1 L r v n
    simp only [addAll, List.foldl_cons, List.length_cons] at h1 ⊢
    omega

def rsum (ks : List (List UInt8)) (I : Items) : Nat := (ks.map fun k => (accOf I k).2.length).sum
theorem rsum_set (I : Items) (k : List UInt8) (p : Int × List Int) : ∀ ks : List (List UInt8), ks.Nodup → rsum ks (setI I k p) ≤ p.2.length + rsum (ks.filter fun x => decide (x ≠ k)) I
  | [], _ => by simp [rsum]
  | x :: ks, h => by
    rw [List.nodup_cons] at h
    by_cases e : x = k
    · subst e
      have hf : ks.filter (fun y => decide (y ≠ x)) = ks := List.filter_eq_self.2 fun y hy => by
        have : y ≠ x := fun e => h.1 (e ▸ hy)
        simpa using this
      have hr : rsum ks (setI I x p) = rsum ks I := by
        unfold rsum
        congr 1
        refine List.map_congr_left fun y hy => ?_
        have : y ≠ x := fun e => h.1 (e ▸ hy)
        simp [accOf, setI, this]
      rw [List.filter_cons_of_neg (by simp), hf]
      have : rsum (x :: ks) (setI I x p) = p.2.length + rsum ks (setI I x p) := by simp [rsum, accOf, setI]
      omega
    · have ih := rsum_set I k p ks h.2
      rw [List.filter_cons_of_pos (by simpa using e)]
      have h1 : rsum (x :: ks) (setI I k p) = (accOf I x).2.length + rsum ks (setI I k p) := by simp [rsum, accOf, setI, e]
      have h2 : rsum (x :: ks.filter fun x => decide (x ≠ k)) I = (accOf I x).2.length + rsum (ks.filter fun x => decide (x ≠ k)) I := by simp [rsum]
      omega

def accesses (ops : List POp) : Nat := (ops.filter fun o => decide (o.kind = 0 ∨ o.kind = 1)).length
def reads (ops : List POp) : Nat := (ops.filter fun o => decide (o.kind = 0)).length

/-- The edges and the readers that wait never outgrow the accesses and the reads. -/
theorem count (n : Nat) (ab : Int → Bool) (N : Int → Nat) (ops : List POp) : ∃ R, esum n (prun ab N ops).succ + R ≤ accesses ops + reads ops ∧ ∀ ks : List (List UInt8), ks.Nodup → rsum ks (prun ab N ops).items ≤ R := by
  suffices H : ∀ m (hm : m ≤ ops.length), ∃ R, esum n (prun ab N (ops.take m)).succ + R ≤ accesses (ops.take m) + reads (ops.take m) ∧ ∀ ks : List (List UInt8), ks.Nodup → rsum ks (prun ab N (ops.take m)).items ≤ R by
    simpa using H ops.length (Nat.le_refl _)
  intro m
  induction m with
  | zero => intro _; exact ⟨0, by simp [prun, st0, esum, accesses, sum0], fun ks _ => by simp [prun, st0, rsum, accOf, sum0]⟩
  | succ m ih =>
    intro hm
    obtain ⟨R, h1, h2⟩ := ih (by omega)
    have ht : ops.take (m + 1) = ops.take m ++ [ops[m]] := by rw [List.take_succ_eq_append_getElem (by omega)]
    rw [ht, prun_snoc]
    generalize hs : prun ab N (ops.take m) = s at h1 h2
    generalize ops[m] = o
    have ha : accesses (ops.take m ++ [o]) = accesses (ops.take m) + (if o.kind = 0 ∨ o.kind = 1 then 1 else 0) := by
      unfold accesses; rw [List.filter_append, List.length_append]; congr 1
      by_cases h : o.kind = 0 ∨ o.kind = 1 <;> simp [h]
    have hr : reads (ops.take m ++ [o]) = reads (ops.take m) + (if o.kind = 0 then 1 else 0) := by
      unfold reads; rw [List.filter_append, List.length_append]; congr 1
      by_cases h : o.kind = 0 <;> simp [h]
    rw [ha, hr]
    have hnd : ∀ ks : List (List UInt8), ks.Nodup → (o.key :: ks.filter fun x => decide (x ≠ o.key)).Nodup := fun ks h => by
      rw [List.nodup_cons]
      exact ⟨by simp, h.filter _⟩
    have hcons : ∀ ks : List (List UInt8), rsum (o.key :: ks) s.items = (accOf s.items o.key).2.length + rsum ks s.items := fun ks => by simp [rsum]
    unfold pstep
    split
    · exact ⟨R, by omega, h2⟩
    next hsk =>
      have hk : o.kind = 0 ∨ o.kind = 1 := by
        unfold POp.skips at hsk
        rcases Int.lt_trichotomy o.kind 0 with h | h | h
        · exact absurd (Or.inr ⟨by omega, by omega⟩) hsk
        · exact Or.inl h
        · by_cases h1 : o.kind = 1
          · exact Or.inr h1
          · exact absurd (Or.inr ⟨by omega, h1⟩) hsk
      rw [if_pos hk]
      split
      next h0 =>
        refine ⟨R + 1, ?_, fun ks hks => ?_⟩
        · have := esum_addW s.succ (accOf s.items o.key).1 (N o.txn) n
          show esum n (addW s.succ (accOf s.items o.key).1 (N o.txn)) + (R + 1) ≤ _
          omega
        · have e1 := rsum_set s.items o.key ((accOf s.items o.key).1, addR (accOf s.items o.key).2 (N o.txn)) ks hks
          have e2 := h2 _ (hnd ks hks)
          rw [hcons] at e2
          have e3 := addR_len (accOf s.items o.key).2 (N o.txn)
          simp only at e1
          show rsum ks (setI s.items o.key ((accOf s.items o.key).1, addR (accOf s.items o.key).2 (N o.txn))) ≤ _
          omega
      next h0 =>
        have e0 : (accOf s.items o.key).2.length ≤ R := by
          have := h2 [o.key] (by simp)
          simpa [rsum] using this
        refine ⟨R - (accOf s.items o.key).2.length, ?_, fun ks hks => ?_⟩
        · have := esum_addAll n (accOf s.items o.key).2 (N o.txn) (addW s.succ (accOf s.items o.key).1 (N o.txn))
          have := esum_addW s.succ (accOf s.items o.key).1 (N o.txn) n
          show esum n (addAll (addW s.succ (accOf s.items o.key).1 (N o.txn)) (accOf s.items o.key).2 (N o.txn)) + _ ≤ _
          omega
        · have e1 := rsum_set s.items o.key ((N o.txn : Int), []) ks hks
          have e2 := h2 _ (hnd ks hks)
          rw [hcons] at e2
          simp only [List.length_nil] at e1
          show rsum ks (setI s.items o.key ((N o.txn : Int), [])) ≤ _
          omega

theorem edges_le (n : Nat) (ab : Int → Bool) (N : Int → Nat) (ops : List POp) : esum n (prun ab N ops).succ ≤ accesses ops + reads ops := by
  obtain ⟨R, h, _⟩ := count n ab N ops
  omega
end Go.Proofs.Qxb6601382a
