/- A map[string]bool as the set of its keys; string(b) of a []byte. -/
import Derived.Test.Qxb6601361aNames
import Derived.Maps.OwnSet
import Derived.Laws.BytesArg
namespace Go.Proofs.Qxb6601361a
open Go.RowKit Go.Maps

def Byte (xs : List Int) : Prop := ∀ d ∈ xs, 0 ≤ d ∧ d ≤ 255
theorem bytes_inj {xs ys : List Int} (hx : Byte xs) (hy : Byte ys) (h : (xs.map fun n => UInt8.ofNat n.toNat) = ys.map fun n => UInt8.ofNat n.toNat) : xs = ys := by
  induction xs generalizing ys with
  | nil => cases ys with
    | nil => rfl
    | cons y t => simp at h
  | cons x s ih => cases ys with
    | nil => simp at h
    | cons y t =>
      simp only [List.map_cons, List.cons.injEq] at h
      have e := congrArg UInt8.toNat h.1
      obtain ⟨x0, x1⟩ := hx x (by simp)
      obtain ⟨y0, y1⟩ := hy y (by simp)
      simp at e
      rw [ih (fun d hd => hx d (by simp [hd])) (fun d hd => hy d (by simp [hd])) h.2, show x = y by omega]
theorem str_list (xs : List Int) : (strOfNums xs).toList = xs.map fun n => UInt8.ofNat n.toNat := by rw [ByteArray.toList_eq]; rfl
theorem str_eq {xs ys : List Int} (hx : Byte xs) (hy : Byte ys) : ((strOfNums xs).toList == (strOfNums ys).toList) = decide (xs = ys) := by
  rw [str_list, str_list, Bool.eq_iff_iff, beq_iff_eq, decide_eq_true_eq]
  exact ⟨bytes_inj hx hy, fun h => by rw [h]⟩

/-- The key that a name reads as. -/
def keyL (xs : List Int) : Lit := .string (xs.map fun n => UInt8.ofNat n.toNat)
theorem keyL_inj {xs ys : List Int} (hx : Byte xs) (hy : Byte ys) (h : keyL xs = keyL ys) : xs = ys := by
  simp only [keyL, Lit.string.injEq] at h
  exact bytes_inj hx hy h
theorem law9 : Keyed Try.prog 9 := string_keyed Try.underlying9
theorem keyOf9 (xs : List Int) (h : xs.length ≤ 1048576) : keyOf Try.prog 9 (.string (strOfNums xs)) = some (keyL xs) :=
  WideMaps.keyOf_string_mk Try.underlying9 (by rw [strOfNums_size]; unfold maxLen; omega)

theorem conv_bv (v : Value) (xs : List Int) (w : World) (h : BV w v xs) : (convert 22 9 v).run Try.prog w = .ok (.string (strOfNums xs)) w := by
  obtain ⟨ao, cap, rfl, h2⟩ := h
  rcases h2 with rfl | ⟨b, o, rfl, _, hl⟩
  · cases ao with
    | none => exact run_convert_bytes_nil w 22 5 Try.underlying22 Try.underlying5 _ _ 9 Try.underlying9
    | some a =>
      rw [run_convert_bytes_string w 22 9 5 _ _ cap Try.underlying22 Try.underlying5 Try.underlying9]
      rfl
  · exact run_convert_bytes_arg w 22 5 Try.underlying22 Try.underlying5 b o _ cap xs rfl (fun i hi => by
      have := hl i hi
      rw [List.getD_eq_getElem?_getD, List.getElem?_eq_getElem hi]
      exact this) 9 Try.underlying9

theorem plainElem_bool_inv {H : Type} {v : Value} {z : DataW H × List MemPlace} (h : plainElem Try.prog 4 v = some z) : ∃ x, v = .bool x ∧ z = (.lit (.bool x), []) := by
  unfold plainElem at h
  rw [Try.underlying4] at h
  split at h
  · rename_i x _
    cases h
    exact ⟨x, rfl, rfl⟩
  · simp_all
  · simp_all
  · cases h

/-- Block M is a map whose keys are just the names in seen (each mapped to true). -/
def MapIs (w : World) (M : Nat) (seen : List (List Int)) : Prop :=
  ∃ (n : Nat) (D : DataW Unit), n ≤ 1048576 + seen.length ∧ w.ownsMap Try.prog 9 (plainElem Try.prog 4) M n D ∧ ∀ xs, Byte xs → D.atKey (keyL xs) (.lit (.bool false)) = .lit (.bool (decide (xs ∈ seen)))

theorem mapIs_made (w : World) : MapIs (w.alloc (.map #[] 0)) w.heap.size [] :=
  ⟨0, .map [], by omega, World.ownsMap_made _ _ _ _, fun xs _ => by simp [DataW.atKey]⟩
theorem MapIs.lt {w : World} {M : Nat} {seen : List (List Int)} (h : MapIs w M seen) : M < w.heap.size := by
  obtain ⟨n, D, _, h1, _⟩ := h
  exact h1.lt
theorem MapIs.of_block {w w' : World} {M : Nat} {seen : List (List Int)} (h : MapIs w M seen) (hb : w'.heap[M]? = w.heap[M]?) : MapIs w' M seen := by
  obtain ⟨n, D, h0, ⟨es, clock, h1, h2⟩, h3⟩ := h
  exact ⟨n, D, h0, ⟨es, clock, by rw [hb]; exact h1, h2⟩, h3⟩

theorem zero4 (w : World) : (zeroValue 4).run Try.prog w = .ok (.bool false) w := by kernel_rfl

theorem MapIs.look {w : World} {M : Nat} {seen : List (List Int)} (h : MapIs w M seen) {xs : List Int} (hx : Byte xs) (hl : xs.length ≤ 1048576) :
    (Instr.lookup 45 (.map (some M)) (.string (strOfNums xs)) false).run Try.prog w = .ok (.bool (decide (xs ∈ seen))) w := by
  obtain ⟨n, D, _, hown, hat⟩ := h
  obtain ⟨v, ps, hrun, hv⟩ := hown.lookup law9 Try.underlying45 (zero4 w) (plainElem_bool Try.underlying4 false) (keyOf9 xs hl)
  rw [hat xs hx] at hv
  obtain ⟨x, rfl, he⟩ := plainElem_bool_inv hv
  simp only [Prod.mk.injEq, DataW.lit.injEq, Lit.bool.injEq] at he
  rw [hrun, he.1]

theorem MapIs.put {w : World} {M : Nat} {seen : List (List Int)} (h : MapIs w M seen) {xs : List Int} (hx : Byte xs) (hl : xs.length ≤ 1048576) (hs : seen.length ≤ 1048576) :
    ∃ w', (Instr.mapUpdate 45 (.map (some M)) (.string (strOfNums xs)) (.bool true)).run Try.prog w = .ok () w' ∧ MapIs w' M (seen ++ [xs]) ∧ w.grownBy w' (some M) := by
  obtain ⟨n, D, hn, hown, hat⟩ := h
  obtain ⟨w', hrun, hown', hgr⟩ := hown.update law9 Try.underlying45 (by unfold maxLen; omega) (keyOf9 xs hl) (plainElem_bool Try.underlying4 true)
  refine ⟨w', hrun, ⟨n + 1, _, by simp; omega, hown', fun ys hy => ?_⟩, hgr⟩
  by_cases e : ys = xs
  · subst e
    rw [atKey_put_same hown.isMap (show WideAt.IsKeyLit (keyL ys) from trivial)]
    simp
  · rw [atKey_put_other (fun h => e (keyL_inj hy hx h)), hat ys hy]
    simp [e]
end Go.Proofs.Qxb6601361a
