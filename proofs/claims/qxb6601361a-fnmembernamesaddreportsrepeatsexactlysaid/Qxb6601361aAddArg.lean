/- The [][]byte that came in, opened. -/
import Derived.Test.Qxb6601361aAddMain
import Derived.Deep.Slices
import Derived.Deep.Strs
import Derived.ProofKit
namespace Go.Proofs.Qxb6601361a
open Go.RowKit Go.Deep Go.ChangeShapes Go.WideShapes

theorem cells22 : Try.prog.cellsOf 22 = 1 := by kernel_rfl
theorem cells5 : Try.prog.cellsOf 5 = 1 := by kernel_rfl
theorem wf_u8 {d : Int} (h : (Lit.int .u8 d).wf = true) : 0 ≤ d ∧ d ≤ 255 := by
  simp only [Lit.wf, Bool.and_eq_true, decide_eq_true_eq] at h
  have e1 : IntKind.u8.min = 0 := by rfl
  have e2 : IntKind.u8.max = 255 := by rfl
  rw [e1, e2] at h
  exact h

theorem open_bv {H : Type} {enc : TypeId × Value → H} {W : World} {base : Nat} {spare : Nat → Bool} {held : Bool} {fuel : Nat} {v : Value} {x : DataW H × List MemPlace}
    (h : DataW.trod enc Try.prog W base spare held fuel 22 [v] = some x) : ∃ xs, BV W v xs ∧ Byte xs := by
  rcases open_ints Try.underlying22 Try.underlying5 cells5 h with ⟨hcs, _⟩ | ⟨a, len, cap, zs, hcs, _, hl, hm, hz, _, hcell, hwz⟩
  · simp at hcs
    exact ⟨[], ⟨none, 0, hcs, Or.inl rfl⟩, fun d hd => by cases hd⟩
  · simp at hcs
    have hlz : len ≤ zs.length := by rw [hz]; split <;> omega
    have hlen : (zs.take len).length = len := by rw [List.length_take]; omega
    refine ⟨zs.take len, ⟨some a, cap, by rw [hlen]; exact hcs, ?_⟩, fun d hd => wf_u8 (hwz d (List.mem_of_mem_take hd))⟩
    by_cases h0 : len = 0
    · left; subst h0; simp
    · right
      obtain ⟨b, off, spot⟩ := a
      have hc := hcell 0 (by omega)
      have hspot : spot = none := by simpa [Addr.add] using World.cell?_spot hc
      subst hspot
      rw [add_plain] at hc
      refine ⟨b, off, rfl, World.block_lt_of_cell? _ _ hc, fun i hi => ?_⟩
      have g := hcell i (by omega)
      rw [add_plain] at g
      rw [g, List.getElem_take, List.getD_eq_getElem?_getD, List.getElem?_eq_getElem (by omega)]
      rfl

theorem open_names {H : Type} {enc : TypeId × Value → H} {W : World} {base : Nat} {spare : Nat → Bool} {held : Bool} {fuel : Nat} {a0 : Option Addr} {len cap : Nat} {x : DataW H × List MemPlace}
    (h : DataW.trod enc Try.prog W base spare held fuel 41 [.slice a0 len cap] = some x) :
    ∃ V N, ArgN W a0 len V N ∧ (a0 = none → len = 0) ∧ ∀ i, i < len → Byte (N i) := by
  rcases open_slice1 Try.underlying41 cells22 h with ⟨hcs, _⟩ | ⟨a, l, c, m, n, V, D, Pl, hcs, hb, hl, hm, hmm, _, hx⟩
  · simp at hcs
    exact ⟨fun _ => .bool false, fun _ => [], Or.inl hcs.2.1, fun _ => hcs.2.1, fun i hi => by omega⟩
  simp at hcs
  obtain ⟨rfl, rfl, rfl⟩ := hcs
  have hlm : len ≤ m := by rw [hmm]; split <;> omega
  obtain ⟨N, hN⟩ := choose_lt (α := List Int) (p := fun i xs => BV W (V i) xs ∧ Byte xs) (n := len) (fun i hi => open_bv (hx i (by omega)).2)
  refine ⟨V, N, ?_, ⟨(fun h => by simp at h), fun i hi => (hN i hi).2⟩⟩
  by_cases h0 : len = 0
  · exact Or.inl h0
  · right
    obtain ⟨b, off, spot⟩ := a
    have hc := (hx 0 (by omega)).1
    have hspot : spot = none := by simpa [Addr.add] using World.cell?_spot hc
    subst hspot
    rw [add_plain] at hc
    refine ⟨b, off, rfl, World.block_lt_of_cell? _ _ hc, fun i hi => ⟨?_, (hN i hi).1⟩⟩
    have g := (hx i (by omega)).1
    rw [add_plain] at g
    exact g
end Go.Proofs.Qxb6601361a
