/- The slice of operations that came in, opened, with the kinds' sign. -/
import Derived.Test.Qxb6601382aArg
import Derived.Deep.Slices
import Derived.Deep.Strs
import Derived.ProofKit
namespace Go.Proofs.Qxb6601382a
open Go.RowKit Go.Deep Go.ChangeShapes Go.WideShapes

theorem wf_u8 {d : Int} (h : (Lit.int .u8 d).wf = true) : 0 ≤ d := by
  simp only [Lit.wf, Bool.and_eq_true, decide_eq_true_eq] at h
  have e1 : IntKind.u8.min = 0 := by rfl
  rw [e1] at h
  exact h.1

theorem open_ops8 {H : Type} {enc : TypeId × Value → H} {W : World} {base : Nat} {spare : Nat → Bool} {held : Bool} {fuel : Nat} {a0 : Option Addr} {len cap : Nat} {x : DataW H × List MemPlace}
    (h : DataW.trod enc Try.prog W base spare held fuel 22 [.slice a0 len cap] = some x) :
    ∃ ops : List POp, ops.length = len ∧ ArgOps W a0 ops ∧ OkOps ops ∧ (∀ o ∈ ops, 0 ≤ o.kind) ∧ (a0 = none → len = 0 ∧ cap = 0) := by
  rcases open_slice Try.underlying22 h with ⟨hcs, _⟩ | ⟨a, l, c, m, n, D, Pl, hcs, hb, hl, hm, hmm, rfl, hx⟩
  · simp at hcs
    exact ⟨[], hcs.2.1.symm, Or.inl rfl, fun o ho => by simp at ho, fun o ho => by simp at ho, fun _ => hcs.2⟩
  simp at hcs
  obtain ⟨rfl, rfl, rfl⟩ := hcs
  have hlm : len ≤ m := by rw [hmm]; split <;> omega
  have each : ∀ i, i < len → ∃ o : POp, W.cell? (a.add (i * 3)) = some (.int .u8 o.kind) ∧ W.cell? (a.add (i * 3 + 1)) = some (.int .i64 o.txn) ∧ W.cell? (a.add (i * 3 + 2)) = some (.string o.item) ∧ (Wf o.txn ∧ o.item.size ≤ maxLen) ∧ 0 ≤ o.kind := by
    intro i hi
    obtain ⟨cs', h1, h2⟩ := hx i (by omega)
    rw [cells33] at h1
    obtain ⟨_, hlen, hcell⟩ := World.cells?_some h1
    obtain ⟨y0, y1, y2, n', _, _, g0, g1, g2⟩ := trod_struct3 Try.underlying33 h2
    match cs', hlen with
    | [v0, v1, v2], _ =>
      simp [cells5, cells3, cells9] at g0 g1 g2
      obtain ⟨x0, e0, _, hw0⟩ := DataW.trod_int Try.underlying5 g0
      obtain ⟨x1, e1, _, hw1⟩ := DataW.trod_int Try.underlying3 g1
      obtain ⟨x2, e2, _, hs2⟩ := DataW.trod_string Try.underlying9 g2
      simp at e0 e1 e2
      subst e0 e1 e2
      have f0 := hcell 0 (by omega)
      have f1 := hcell 1 (by omega)
      have f2 := hcell 2 (by omega)
      rw [add_add] at f0 f1 f2
      exact ⟨⟨x0, x1, x2⟩, by simpa using f0, by simpa using f1, by simpa using f2, ⟨hw1, hs2⟩, wf_u8 hw0⟩
  have : Inhabited POp := ⟨⟨0, 0, ⟨#[]⟩⟩⟩
  obtain ⟨q, hq⟩ := choose_lt each
  refine ⟨(List.range len).map q, by simp, ?_, ?_, ?_, fun h => by cases h⟩
  · by_cases h0 : len = 0
    · left; subst h0; rfl
    · right
      obtain ⟨b, off, spot⟩ := a
      have hc := (hq 0 (by omega)).1
      have hspot : spot = none := by simpa [Addr.add] using World.cell?_spot hc
      subst hspot
      rw [add_plain] at hc
      refine ⟨b, off, rfl, World.block_lt_of_cell? _ _ hc, fun i hi => ?_⟩
      have hi' : i < len := by simpa using hi
      have g := hq i hi'
      rw [add_plain, add_plain, add_plain] at g
      simp only [List.getElem_map, List.getElem_range]
      exact ⟨g.1, g.2.1, g.2.2.1⟩
  · intro o ho
    simp only [List.mem_map, List.mem_range] at ho
    obtain ⟨i, hi, rfl⟩ := ho
    exact (hq i hi).2.2.2.1
  · intro o ho
    simp only [List.mem_map, List.mem_range] at ho
    obtain ⟨i, hi, rfl⟩ := ho
    exact (hq i hi).2.2.2.2
end Go.Proofs.Qxb6601382a
