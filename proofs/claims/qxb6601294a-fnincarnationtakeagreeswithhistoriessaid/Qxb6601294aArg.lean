/- The slice of heartbeats that came in, opened. -/
import Derived.Test.Qxb6601294aClone
import Derived.Deep.Slices
import Derived.Deep.Strs
import Derived.ProofKit
namespace Go.Proofs.Qxb6601294a
open Go.RowKit Go.Deep Go.ChangeShapes Go.WideShapes

theorem cells52 : Try.prog.cellsOf 52 = 3 := by kernel_rfl
theorem cells38 : Try.prog.cellsOf 38 = 1 := by kernel_rfl
theorem cells2 : Try.prog.cellsOf 2 = 1 := by kernel_rfl

theorem open_hbs {H : Type} {enc : TypeId × Value → H} {W : World} {base : Nat} {spare : Nat → Bool} {held : Bool} {fuel : Nat} {a0 : Option Addr} {len cap : Nat} {x : DataW H × List MemPlace}
    (h : DataW.trod enc Try.prog W base spare held fuel 48 [.slice a0 len cap] = some x) :
    (a0 = none ∧ len = 0 ∧ cap = 0) ∨ ∃ (a : Addr) (I S R : Nat → Int), a0 = some a ∧ len ≤ maxLen ∧ ArgHB W a len I S R := by
  rcases open_slice Try.underlying48 h with ⟨hcs, _⟩ | ⟨a, l, c, m, n, D, Pl, hcs, hb, hl, hm, hmm, rfl, hx⟩
  · simp at hcs
    exact Or.inl hcs
  simp at hcs
  obtain ⟨rfl, rfl, rfl⟩ := hcs
  right
  have hlm : len ≤ m := by rw [hmm]; split <;> omega
  have each : ∀ i, i < len → ∃ q : Int × Int × Int, W.cell? (a.add (i * 3)) = some (.int .u64 q.1) ∧ W.cell? (a.add (i * 3 + 1)) = some (.int .i64 q.2.1) ∧ W.cell? (a.add (i * 3 + 2)) = some (.int .i64 q.2.2) := by
    intro i hi
    obtain ⟨cs', h1, h2⟩ := hx i (by omega)
    rw [cells52] at h1
    obtain ⟨_, hlen, hcell⟩ := World.cells?_some h1
    obtain ⟨y0, y1, y2, n', _, _, g0, g1, g2⟩ := trod_struct3 Try.underlying52 h2
    match cs', hlen with
    | [v0, v1, v2], _ =>
      simp [cells38, cells2] at g0 g1 g2
      obtain ⟨x0, e0, _, _⟩ := DataW.trod_int Try.underlying38 g0
      obtain ⟨x1, e1, _, _⟩ := DataW.trod_int Try.underlying2 g1
      obtain ⟨x2, e2, _, _⟩ := DataW.trod_int Try.underlying2 g2
      simp at e0 e1 e2
      subst e0 e1 e2
      have f0 := hcell 0 (by omega)
      have f1 := hcell 1 (by omega)
      have f2 := hcell 2 (by omega)
      rw [add_add] at f0 f1 f2
      exact ⟨(x0, x1, x2), by simpa using f0, by simpa using f1, by simpa using f2⟩
  obtain ⟨q, hq⟩ := choose_lt each
  refine ⟨a, fun i => (q i).1, fun i => (q i).2.1, fun i => (q i).2.2, rfl, by omega, ?_⟩
  by_cases h0 : len = 0
  · exact Or.inl h0
  · right
    obtain ⟨b, off, spot⟩ := a
    have hc := (hq 0 (by omega)).1
    have hspot : spot = none := by simpa [Addr.add] using World.cell?_spot hc
    subst hspot
    rw [add_plain] at hc
    refine ⟨b, off, rfl, World.block_lt_of_cell? _ _ hc, fun i hi => ?_⟩
    have g := hq i hi
    rw [add_plain, add_plain, add_plain] at g
    exact g
end Go.Proofs.Qxb6601294a
