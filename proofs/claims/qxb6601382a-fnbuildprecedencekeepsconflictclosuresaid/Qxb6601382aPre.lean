/- What buildPrecedence's first three loops stand on. -/
import Derived.Test.Qxb6601382aRep
import Derived.Test.Qxb6601382aShelf
import Derived.Sort.OwnSortedInts
namespace Go.Proofs.Qxb6601382a
open Go.RowKit Go.Maps Go.Sort

theorem run_makeMap_hint (n : Int) (w : World) : (Instr.makeMap 61 (some (.int .i64 n))).run Try.prog w = .ok (.map (some w.heap.size)) (w.alloc (.map #[] 0)) := by
  simp [Instr.makeMap, run_underlying Try.underlying61, asInt, asIntOf, Result.andThen]
theorem info24 : (Try.prog.info? 24).map (fun i => (i.zero, i.size, i.bytes)) = some (some (.slice none 0 0), 1, 24) := by kernel_rfl
theorem info3 : (Try.prog.info? 3).map (fun i => (i.zero, i.size, i.bytes)) = some (some (.int .i64 0), 1, 8) := by kernel_rfl
theorem make25 (n : Nat) (hn : n ≤ 65536) (w : World) : (Instr.makeSlice 25 (.int .i64 (n : Int)) (.int .i64 (n : Int))).run Try.prog w = .ok (.slice (some ⟨w.heap.size, 0, none⟩) n n) (w.alloc (.cells (madeCells #[.slice none 0 0] n) 24)) :=
  run_make_row' (P := Try.prog) 25 24 (.slice none 0 0) 24 Try.underlying25 info24 rfl .i64 .i64 n (by omega) (by omega) w

theorem OwnI.form {w : World} {B : Nat} {v : Value} {l : List Int} (h : OwnI w B v l) : ∃ a c, v = .slice a l.length c := by
  rcases h.2 with ⟨rfl, h0⟩ | ⟨g, cap, cur, rfl, _⟩
  · exact ⟨none, 0, by rw [h0]⟩
  · exact ⟨_, _, rfl⟩

def sortI (ts : List Int) : List Int := ts.mergeSort fun x y => decide (x ≤ y)
theorem sort_own {B : Nat} {tv : Value} {ts : List Int} {w : World} (h : OwnI w B tv ts) (hl : ts.length ≤ 65536) :
    Calls Try.prog 36 #[tv] w fun e w' => e = .returned (.tuple #[]) ∧ OwnI w' B tv (sortI ts) ∧ w.grownBy w' tv.ownBlock := by
  rcases h.2 with ⟨rfl, h0⟩ | ⟨g, cap, cur, rfl, hbase, hb, h1, h2, h3, h4⟩
  · refine (Try.slices_Sort_int_none none 0 w).mono ?_
    rintro e w' ⟨rfl, rfl⟩
    have : ts = [] := by simpa using h0
    subst this
    exact ⟨rfl, by rw [show sortI [] = [] by simp [sortI]]; exact h, World.grownBy.refl _ _⟩
  · have hH : Holds (Value.int .i64) w g 0 ts.toArray := holds_of_blockI hb (by simpa [ints] using h4)
    refine (Try.slices_Sort_int g 0 cap ts w hH (Array.getElem?_eq_some_iff.1 hb).1 (by omega)).mono ?_
    rintro e w' ⟨rfl, n, os, rfl⟩
    refine ⟨rfl, ?_, grownBy_sortedI _⟩
    have := ownsRow_sortedI (w := w) (base := B) (n := n) (os := os) (ss := ts) (ts := sortI ts) (by simp [sortI]) hbase hb (by simpa using h1) h2 h3
    unfold OwnI
    rw [show (sortI ts).length = ts.length by simp [sortI]]
    exact this

/-- Who is named, and who aborts, among the operations. -/
def namesOf (ops : List POp) : List Int := ops.foldl (fun ks o => addK ks o.txn) []
def abOf (ops : List POp) (x : Int) : Bool := ops.any fun o => decide (o.txn = x) && (o.kind == 3)
theorem names_succ {ops : List POp} {i : Nat} (h : i < ops.length) : namesOf (ops.take (i + 1)) = addK (namesOf (ops.take i)) ops[i].txn := by
  rw [List.take_succ_eq_append_getElem h, namesOf, List.foldl_append]; rfl
theorem ab_succ {ops : List POp} {i : Nat} (h : i < ops.length) : abOf (ops.take (i + 1)) = updB (abOf (ops.take i)) ops[i].txn (abOf (ops.take i) ops[i].txn || (ops[i].kind == 3)) := by
  funext x
  rw [List.take_succ_eq_append_getElem h, abOf, List.any_append]
  unfold updB
  by_cases e : x = ops[i].txn
  · subst e; simp [abOf]
  · have : ¬ ops[i].txn = x := fun h => e h.symm
    simp [abOf, e, this]

section
variable (w : World) {oz : Array Oper} {rest : List Oper} {o : Oper} {a : Act} {Q : Exit → Act → World → Prop}
theorem wpList_lenB (hg : o.guard = none) (m : Operand) (hop : o.op = Op.call { callee := Callee.builtin Builtin.len, args := #[m], argTypes := #[60] }) (b n : Nat) (D : DataW Unit) (ks : List Int) (ab : Int → Bool) (hm : a.eval m = .map (some b)) (h : w.ownsMap Try.prog 3 (plainElem Try.prog 4) b n D) (hB : HoldsB D ks ab)
    (hK : wpList Try.prog oz Q rest (a.put o.dst (.int .i64 ks.length)) w) : wpList Try.prog oz Q (o :: rest) a w :=
  wpList_len_own w hg m 60 hop 3 4 Try.underlying60 _ b n D hm h (by rw [hB.1]; exact hK)

theorem wpList_nextB (hg : o.guard = none) (it : Operand) (hop : o.op = Op.next it false) (b r n : Nat) (D : DataW Unit) (left : Lit → Bool) (cnt : Nat) (hit : a.eval it = .pointer (some ⟨r, 0, none⟩)) (h : w.ranges Try.prog 3 (plainElem Try.prog 4) b r n D left cnt)
    (hDone : cnt = 0 → (∀ kl, left kl = false) → wpList Try.prog oz Q rest (a.put o.dst (.tuple #[.bool false])) w)
    (hMoreF : ∀ (x : Int) (w' : World) (cnt' : Nat), Wf x → left (.int .i64 x) = true → (∀ zd, D.atKey (.int .i64 x) zd = .lit (.bool false)) → w'.ranges Try.prog 3 (plainElem Try.prog 4) b r n D (fun z => left z && !z.sameKey (.int .i64 x)) cnt' → cnt' < cnt →
      w.grownBy w' (some r) → w'.heap.size = w.heap.size → (Instr.entry (.pointer (some ⟨r, 0, none⟩))).run Try.prog w' = .ok (.tuple #[.int .i64 x, .bool false]) w' → wpList Try.prog oz Q rest (a.put o.dst (.tuple #[.bool true, .int .i64 x, .bool false])) w')
    (hMoreT : ∀ (x : Int) (w' : World) (cnt' : Nat), Wf x → left (.int .i64 x) = true → (∀ zd, D.atKey (.int .i64 x) zd = .lit (.bool true)) → w'.ranges Try.prog 3 (plainElem Try.prog 4) b r n D (fun z => left z && !z.sameKey (.int .i64 x)) cnt' → cnt' < cnt →
      w.grownBy w' (some r) → w'.heap.size = w.heap.size → (Instr.entry (.pointer (some ⟨r, 0, none⟩))).run Try.prog w' = .ok (.tuple #[.int .i64 x, .bool true]) w' → wpList Try.prog oz Q rest (a.put o.dst (.tuple #[.bool true, .int .i64 x, .bool true])) w') :
    wpList Try.prog oz Q (o :: rest) a w :=
  wpList_next_ranges w hg it hop 3 law3 (plainElem Try.prog 4) (Value.int .i64) Value.bool (fun key kl hkey => by obtain ⟨x, rfl, _⟩ := Maps.keyOf_int_inv Try.underlying3 hkey; exact ⟨x, rfl⟩) (fun v y hv => by obtain ⟨c, rfl, _⟩ := plainElem_bool_inv Try.underlying4 hv; exact ⟨c, rfl⟩)
    b r n D left cnt hit h hDone (fun x c kl y w' cnt' hkey hlk hv hat hrg hlt hgr hsz hen => by
      obtain ⟨x', ex, rfl, hwx⟩ := Maps.keyOf_int_inv Try.underlying3 hkey
      cases ex
      obtain ⟨c', ec, rfl⟩ := plainElem_bool_inv Try.underlying4 hv
      cases ec
      cases c
      · exact hMoreF x w' cnt' hwx hlk hat hrg hlt hgr hsz hen
      · exact hMoreT x w' cnt' hwx hlk hat hrg hlt hgr hsz hen)
end

/-- What was collected so far: the keys gone by that do not abort. -/
def Coll (ks : List Int) (ab : Int → Bool) (left : Lit → Bool) (ts : List Int) : Prop := ts.Nodup ∧ ∀ x, x ∈ ts ↔ x ∈ ks ∧ left (.int .i64 x) = false ∧ ab x = false
theorem Coll.start {D : DataW Unit} {ks : List Int} {ab : Int → Bool} (h : HoldsB D ks ab) : Coll ks ab (Maps.has D) [] :=
  by
  refine ⟨List.nodup_nil, fun x => ⟨fun hx => by simp at hx, fun hx => ?_⟩⟩
  have h2 := hx.2.1
  rw [(h.2.2.2 x (h.2.2.1 x hx.1)).1] at h2
  simp [hx.1] at h2
theorem strike {left : Lit → Bool} {x y : Int} : (left (.int .i64 y) && !(Lit.int .i64 y).sameKey (.int .i64 x)) = false ↔ left (.int .i64 y) = false ∨ y = x := by
  by_cases e : y = x
  · subst e
    have : (Lit.int .i64 y).sameKey (.int .i64 y) = true := WideAt.sameKey_self (a := .int .i64 y) trivial
    simp [this]
  · have : (Lit.int .i64 y).sameKey (.int .i64 x) = false := sameKey_ne fun h => e (by simpa using h)
    simp [this, e]
theorem Coll.step {D : DataW Unit} {ks : List Int} {ab : Int → Bool} {left : Lit → Bool} {ts : List Int} (hC : Coll ks ab left ts) (h : HoldsB D ks ab) {x : Int} {c : Bool} (hw : Wf x) (hlk : left (.int .i64 x) = true) (hat : ∀ zd, D.atKey (.int .i64 x) zd = .lit (.bool c)) :
    x ∈ ks ∧ ab x = c ∧ Coll ks ab (fun z => left z && !z.sameKey (.int .i64 x)) (if c then ts else ts ++ [x]) := by
  obtain ⟨g1, g2, g3⟩ := h.2.2.2 x hw
  have hx : x ∈ ks := by
    have := has_true_of_atKey hat
    rw [g1] at this
    simpa using this
  have hc : ab x = c := by
    have := g2 hx (.lit (.bool false))
    rw [hat] at this
    simpa using this.symm
  have hnx : x ∉ ts := fun hi => by have := ((hC.2 x).1 hi).2.1; rw [hlk] at this; cases this
  refine ⟨hx, hc, ?_, fun y => ?_⟩
  · split
    · exact hC.1
    · rw [List.nodup_append]; exact ⟨hC.1, by simp, fun p hp q hq => by simp at hq; subst hq; exact fun e => hnx (e ▸ hp)⟩
  · rw [strike]
    by_cases e : y = x
    · subst e
      cases c
      · simp [hx, hc]
      · simp only [if_true]
        exact ⟨fun hi => absurd hi hnx, fun hi => by rw [hc] at hi; cases hi.2.2⟩
    · have h1 : (y ∈ if c = true then ts else ts ++ [x]) ↔ y ∈ ts := by split <;> simp [e]
      rw [h1, hC.2 y]
      simp [e]
theorem Coll.done {ks : List Int} {ab : Int → Bool} {left : Lit → Bool} {ts : List Int} (hC : Coll ks ab left ts) (hl : ∀ kl, left kl = false) : ts.Nodup ∧ ∀ x, x ∈ ts ↔ x ∈ ks ∧ ab x = false :=
  ⟨hC.1, fun x => by rw [hC.2 x]; simp [hl]⟩

/-- The node of a transaction: its place among the sorted numbers. -/
def nodeOf (T : List Int) (x : Int) : Nat := if x ∈ T then T.idxOf x else 0
theorem node_succ {T : List Int} (hnd : T.Nodup) {k : Nat} (hk : k < T.length) : nodeOf (T.take (k + 1)) = updN (nodeOf (T.take k)) T[k] k := by
  funext x
  have ht := List.take_succ_eq_append_getElem hk
  have hnot : T[k] ∉ T.take k := by
    rw [← List.take_append_drop (k + 1) T, ht] at hnd
    have := (List.nodup_append.1 (List.nodup_append.1 hnd).1).2.2
    exact fun hi => this _ hi _ (by simp) rfl
  have hl : (T.take k).length = k := by rw [List.length_take]; omega
  unfold updN nodeOf
  rw [ht]
  generalize T.take k = l at hnot hl
  generalize T[k] = y at hnot
  by_cases e : x = y
  · subst e
    rw [if_pos (by simp), if_pos rfl, List.idxOf_append, if_neg hnot]
    simp [hl]
  · rw [if_neg e]
    by_cases hx : x ∈ l
    · rw [if_pos (by simp [hx]), if_pos hx, List.idxOf_append, if_pos hx]
    · rw [if_neg (by simp [hx, e]), if_neg hx]
end Go.Proofs.Qxb6601382a
