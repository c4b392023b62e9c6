/- The edges of the graph, and the textbook's edges pair by pair. -/
import Derived.Test.Qxb6601382aSeen
namespace Go.Proofs.Qxb6601382a
open Go.RowKit

theorem node_inj {T : List Int} {x y : Int} (hx : x ∈ T) (hy : y ∈ T) (h : nodeOf T x = nodeOf T y) : x = y := by
  unfold nodeOf at h
  rw [if_pos hx, if_pos hy] at h
  have h1 := List.getElem_idxOf (List.idxOf_lt_length_of_mem hx)
  have h2 := List.getElem_idxOf (List.idxOf_lt_length_of_mem hy)
  rw [← h1, ← h2]
  congr 1

section
variable {T : List Int} {ops : List POp}
theorem live_mem (hmem : ∀ x, x ∈ T ↔ x ∈ namesOf ops ∧ abOf ops x = false) {o : POp} (ho : o ∈ ops) (hl : Live (abOf ops) o) : o.txn ∈ T := by
  refine (hmem _).2 ⟨mem_names ho, ?_⟩
  cases h : abOf ops o.txn with
  | false => rfl
  | true => exact absurd (Or.inl h) hl
theorem edge_inj (hmem : ∀ x, x ∈ T ↔ x ∈ namesOf ops ∧ abOf ops x = false) : ∀ o ∈ ops, ∀ p ∈ ops, Live (abOf ops) o → Live (abOf ops) p → nodeOf T o.txn = nodeOf T p.txn → o.txn = p.txn :=
  fun _ ho _ hp hlo hlp h => node_inj (live_mem hmem ho hlo) (live_mem hmem hp hlp) h
theorem want_ok (hmem : ∀ x, x ∈ T ↔ x ∈ namesOf ops ∧ abOf ops x = false) {a b : Nat} (h : Want (abOf ops) (nodeOf T) ops a b) : a < T.length ∧ b < T.length ∧ b ≠ a := by
  obtain ⟨i, j, hi, hj, hij, hc, rfl, rfl⟩ := h
  have h1 := live_mem hmem (List.getElem_mem hi) hc.1
  have h2 := live_mem hmem (List.getElem_mem hj) hc.2.1
  exact ⟨node_lt h1, node_lt h2, fun e => hc.2.2.2.2 (node_inj h1 h2 e.symm)⟩
theorem edge_ok (hmem : ∀ x, x ∈ T ↔ x ∈ namesOf ops ∧ abOf ops x = false) {a : Nat} {x : Int} (h : x ∈ (prun (abOf ops) (nodeOf T) ops).succ a) : ∃ b : Nat, x = b ∧ b < T.length ∧ a < T.length ∧ b ≠ a := by
  have hk := keep_all (edge_inj hmem)
  obtain ⟨b, rfl⟩ := hk.head a x h
  obtain ⟨h1, h2, h3⟩ := want_ok hmem (hk.sound a b h)
  exact ⟨b, rfl, h2, h1, h3⟩
/-- The two matrices' closures are one. -/
theorem mats_eq (hmem : ∀ x, x ∈ T ↔ x ∈ namesOf ops ∧ abOf ops x = false) {n : Nat} (hn : T.length = n) {M M' : Nat → Nat → Bool} (h1 : ∀ a b, a < n → b < n → (M a b = true ↔ Got (prun (abOf ops) (nodeOf T) ops) a b)) (h2 : ∀ a b, a < n → b < n → (M' a b = true ↔ Want (abOf ops) (nodeOf T) ops a b)) (a b : Nat) : RT (Adj n M) a b ↔ RT (Adj n M') a b := by
  have e1 : ∀ a b, Adj n M a b ↔ Got (prun (abOf ops) (nodeOf T) ops) a b := fun a b => by
    refine ⟨fun ⟨g1, g2, g3⟩ => (h1 a b g1 g2).1 g3, fun g => ?_⟩
    obtain ⟨b', hb, g1, g2, _⟩ := edge_ok hmem g
    have : b' = b := by omega
    subst this
    exact ⟨by omega, by omega, (h1 a b' (by omega) (by omega)).2 g⟩
  have e2 : ∀ a b, Adj n M' a b ↔ Want (abOf ops) (nodeOf T) ops a b := fun a b => by
    refine ⟨fun ⟨g1, g2, g3⟩ => (h2 a b g1 g2).1 g3, fun g => ?_⟩
    obtain ⟨g1, g2, _⟩ := want_ok hmem g
    exact ⟨by omega, by omega, (h2 a b (by omega) (by omega)).2 g⟩
  have key := closure_eq (edge_inj hmem) a b
  exact ⟨fun k => (key.1 (k.mono fun a b e => .one ((e1 a b).1 e))).mono fun a b e => .one ((e2 a b).2 e), fun k => (key.2 (k.mono fun a b e => .one ((e2 a b).1 e))).mono fun a b e => .one ((e1 a b).2 e)⟩
end

/-- The textbook's edges up to the pair (i, j). -/
def Upto8 (ab : Int → Bool) (N : Int → Nat) (ops : List POp) (jj ii a b : Nat) : Prop := ∃ i j, ∃ (hi : i < ops.length) (hj : j < ops.length), i < j ∧ (j < jj ∨ (j = jj ∧ i < ii)) ∧ Conf ab ops[i] ops[j] ∧ a = N ops[i].txn ∧ b = N ops[j].txn
theorem upto_row {ab : Int → Bool} {N : Int → Nat} {ops : List POp} {jj a b : Nat} : Upto8 ab N ops jj jj a b ↔ Upto8 ab N ops (jj + 1) 0 a b := by
  constructor
  · rintro ⟨i, j, hi, hj, hij, h, r⟩; exact ⟨i, j, hi, hj, hij, by omega, r⟩
  · rintro ⟨i, j, hi, hj, hij, h, r⟩; exact ⟨i, j, hi, hj, hij, by omega, r⟩
theorem upto_all {ab : Int → Bool} {N : Int → Nat} {ops : List POp} {a b : Nat} : Upto8 ab N ops ops.length 0 a b ↔ Want ab N ops a b := by
  constructor
  · rintro ⟨i, j, hi, hj, hij, _, r⟩; exact ⟨i, j, hi, hj, hij, r⟩
  · rintro ⟨i, j, hi, hj, hij, r⟩; exact ⟨i, j, hi, hj, hij, by omega, r⟩
theorem upto_none {ab : Int → Bool} {N : Int → Nat} {ops : List POp} {a b : Nat} : ¬ Upto8 ab N ops 0 0 a b := by
  rintro ⟨i, j, _, _, _, h, _⟩; omega
theorem upto_skip {ab : Int → Bool} {N : Int → Nat} {ops : List POp} {jj ii a b : Nat} (hi : ii < ops.length) (hj : jj < ops.length) (hc : ¬ Conf ab ops[ii] ops[jj]) : Upto8 ab N ops jj (ii + 1) a b ↔ Upto8 ab N ops jj ii a b := by
  constructor
  · rintro ⟨i, j, hi', hj', hij, h, c, r⟩
    refine ⟨i, j, hi', hj', hij, ?_, c, r⟩
    by_cases e : j = jj ∧ i = ii
    · obtain ⟨rfl, rfl⟩ := e; exact absurd c hc
    · omega
  · rintro ⟨i, j, hi', hj', hij, h, r⟩; exact ⟨i, j, hi', hj', hij, by omega, r⟩
theorem upto_hit {ab : Int → Bool} {N : Int → Nat} {ops : List POp} {jj ii a b : Nat} (hi : ii < ops.length) (hj : jj < ops.length) (hij : ii < jj) (hc : Conf ab ops[ii] ops[jj]) : Upto8 ab N ops jj (ii + 1) a b ↔ Upto8 ab N ops jj ii a b ∨ (a = N ops[ii].txn ∧ b = N ops[jj].txn) := by
  constructor
  · rintro ⟨i, j, hi', hj', hij', h, c, r⟩
    by_cases e : j = jj ∧ i = ii
    · obtain ⟨rfl, rfl⟩ := e; exact Or.inr r
    · exact Or.inl ⟨i, j, hi', hj', hij', by omega, c, r⟩
  · rintro (⟨i, j, hi', hj', hij', h, r⟩ | ⟨rfl, rfl⟩)
    · exact ⟨i, j, hi', hj', hij', by omega, r⟩
    · exact ⟨ii, jj, hi, hj, hij, by omega, hc, rfl, rfl⟩
end Go.Proofs.Qxb6601382a
