/- What the walk of buildPrecedence stands on: the operations in memory, the start of its fourth loop. -/
import Derived.Test.Qxb6601382aPre
import Derived.Handy
import Derived.BigQuiet
import Derived.Deep.RegionHeld3
namespace Go.Proofs.Qxb6601382a
open Go.RowKit

/-- The operations lie in block b, three cells each. -/
def Lie3 (w : World) (b : Nat) (ops : List POp) : Prop := ∀ i (h : i < ops.length), w.cell? ⟨b, i * 3, none⟩ = some (.int .u8 ops[i].kind) ∧ w.cell? ⟨b, i * 3 + 1, none⟩ = some (.int .i64 ops[i].txn) ∧ w.cell? ⟨b, i * 3 + 2, none⟩ = some (.string ops[i].item)
def OpsAt (w : World) (ao : Option Addr) (ops : List POp) : Prop := ops = [] ∨ ∃ b, ao = some ⟨b, 0, none⟩ ∧ b < w.heap.size ∧ Lie3 w b ops
def OkOps (ops : List POp) : Prop := ∀ o ∈ ops, Wf o.txn ∧ o.item.size ≤ maxLen

theorem OpsAt.get {w : World} {ao : Option Addr} {ops : List POp} (h : OpsAt w ao ops) {i : Nat} (hi : i < ops.length) : ∃ b, ao = some ⟨b, 0, none⟩ ∧ b < w.heap.size ∧ Lie3 w b ops := by
  rcases h with h | h
  · rw [h] at hi; simp at hi
  · exact h

theorem grown_set (w : World) (a : Addr) (u : Value) : w.grownBy (w.setCell a u) (some a.block) :=
  have h := (Below.refl a.block w).setCell (Nat.le_refl _) u
  ⟨h.os, h.tape, h.output, h.size, fun k _ hne => Below.heap_setCell w a u k (by simpa using hne)⟩
theorem app_own {w : World} {B c : Nat} {a : Option Addr} {l : List Int} {x : Int} (h : w.ownsRow B 3 1 (.slice a (l.length + 1) c) (l.length + 1) (ints l ++ [.int .i64 x])) : OwnI w B (.slice a (l ++ [x]).length c) (l ++ [x]) := by
  unfold OwnI ints
  rw [List.length_append, List.map_append]
  exact h
theorem OwnI.get {w : World} {B n c : Nat} {a : Option Addr} {l : List Int} (h : OwnI w B (.slice a n c) l) {k : Nat} (hk : k < l.length) : ∃ g, a = some ⟨g, 0, none⟩ ∧ w.cell? ⟨g, k, none⟩ = some (.int .i64 l[k]) := by
  obtain ⟨g, cap, hv, -, -⟩ := World.ownsRow.form h (by omega)
  simp only [Value.slice.injEq] at hv
  obtain ⟨rfl, rfl, rfl⟩ := hv
  refine ⟨g, rfl, ?_⟩
  rw [World.ownsRow.cellAt h k (by omega)]
  simp [ints, hk]
theorem mem_sortI {l : List Int} {x : Int} : x ∈ sortI l ↔ x ∈ l := by simp [sortI]
theorem len_sortI (l : List Int) : (sortI l).length = l.length := by simp [sortI]
theorem nodup_sortI {l : List Int} (h : l.Nodup) : (sortI l).Nodup := (List.mergeSort_perm l _).nodup_iff.2 h
theorem OwnI.mono {w : World} {B B' : Nat} {v : Value} {l : List Int} (h : OwnI w B v l) (hb : B' ≤ B) : OwnI w B' v l :=
  ⟨h.1, h.2.imp id fun ⟨g, cap, cur, e, hg, r⟩ => ⟨g, cap, cur, e, Nat.le_trans hb hg, r⟩⟩
theorem OwnI.ne {w : World} {B : Nat} {v : Value} {l : List Int} (h : OwnI w B v l) {b : Nat} (hb : b < B) : some b ≠ v.ownBlock := fun e => by have := (h.lt b e.symm).1; omega
theorem OwnI.grown {w w' : World} {B : Nat} {v : Value} {l : List Int} {row : Option Nat} (h : OwnI w B v l) (hg : w.grownBy w' row) (hne : v.ownBlock = none ∨ v.ownBlock ≠ row) : OwnI w' B v l := h.kept hg hne

/-- Who owns what when the operations are gone through the second time. -/
def tag0 (M1 M2 G S : Nat) (tv : Value) : Nat → Tag := updT (updT (updT (updT (updT (fun b => if tv.ownBlock = some b then .t else .no) (S + 1) .m3) S .s) M2 .m2) G .g) M1 .m1
def fix0 (M1 M2 G S n i : Nat) (ks : List Int) (ab : Int → Bool) (ta : Option Addr) (tc : Nat) (T : List Int) : Fix := ⟨M1, M1, M2, S + 1, G, S, n, i, n, ks, ab, nodeOf T, .slice ta n tc, T⟩
theorem rep0 {wr : World} {M1 M2 G S n i : Nat} {ks : List Int} {ab : Int → Bool} {ta : Option Addr} {tc : Nat} {T : List Int} (hS : wr.heap.size = S) (h1 : M1 < G) (h2 : G < M2) (h3 : M2 < S)
    (hrow : wr.rowIs G 52 3 (gF ks.length (.slice ta n tc) (.slice none 0 0))) (hT : OwnI wr (G + 2) (.slice ta n tc) T) (hB : MapB wr M1 i ks ab) (hN : MapN wr M2 n (nodeOf T)) (hlt : ∀ b, (Value.slice ta n tc).ownBlock = some b → G + 2 ≤ b ∧ b < M2) :
    Rep (fix0 M1 M2 G S n i ks ab ta tc T) (((wr.alloc (.cells (madeCells #[.slice none 0 0] n) 24)).setCell ⟨G, 2, none⟩ (.slice (some ⟨S, 0, none⟩) n n)).alloc (.map #[] 0)) 0 (tag0 M1 M2 G S (.slice ta n tc)) (fun _ => .slice none 0 0) (fun _ => 0) (fun _ => .slice none 0 0) (fun _ => []) (fun _ => none) := by
  have hg1 := World.grownBy_alloc wr (.cells (madeCells #[.slice none 0 0] n) 24) none
  have hmS := World.rowIs_made wr (.slice none 0 0) n 24
  rw [hS] at hmS
  obtain ⟨W1, hW1⟩ : ∃ W1, wr.alloc (.cells (madeCells #[.slice none 0 0] n) 24) = W1 := ⟨_, rfl⟩
  have hz1 : W1.heap.size = S + 1 := by rw [← hW1]; simp [hS]
  rw [hW1] at hg1 hmS ⊢
  clear hW1
  have hg2 := grown_set W1 ⟨G, 2, none⟩ (.slice (some ⟨S, 0, none⟩) n n)
  have hz2 : (W1.setCell ⟨G, 2, none⟩ (.slice (some ⟨S, 0, none⟩) n n)).heap.size = S + 1 := by simp [hz1]
  have hG2 := (hrow.of_block (hg1.block G (by omega) (by simp))).set 2 (.slice (some ⟨S, 0, none⟩) n n)
  obtain ⟨W2, hW2⟩ : ∃ W2, W1.setCell ⟨G, 2, none⟩ (.slice (some ⟨S, 0, none⟩) n n) = W2 := ⟨_, rfl⟩
  rw [hW2] at hg2 hz2 hG2 ⊢
  clear hW2
  have hg3 := World.grownBy_alloc W2 (.map #[] 0) none
  have hz3 : (W2.alloc (.map #[] 0)).heap.size = S + 2 := by simp [hz2]
  have hM3 := World.ownsMap_made W2 Try.prog 9 ptrElem
  rw [hz2] at hM3
  obtain ⟨W3, hW3⟩ : ∃ W3, W2.alloc (.map #[] 0) = W3 := ⟨_, rfl⟩
  rw [hW3] at hg3 hz3 hM3 ⊢
  clear hW3
  have hb : ∀ b, b < S → b ≠ G → W3.heap[b]? = wr.heap[b]? := fun b hb hne => (hg3.block b (by omega) (by simp)).trans ((hg2.block b (by omega) (by simp [hne])).trans (hg1.block b (by omega) (by simp)))
  refine { lt := fun b hb => ?_, g := ?_, tg := ?_, s := ?_, ts := ?_, suc := fun j hj => ?_, t := ?_, tt := ?_, m1 := hB.of_block (hb M1 (by omega) (by omega)), tm1 := ?_, m2 := hN.of_block (hb M2 (by omega) (by omega)), tm2 := ?_, m3 := ⟨.map [], hM3, fun k => ⟨rfl, fun x hx => by cases hx⟩⟩, tm3 := ?_, acc := fun k p hp => by cases hp }
  · simp only [tag0, updT] at hb
    show M1 ≤ b ∧ b < W3.heap.size
    rw [hz3]
    split at hb
    · omega
    · split at hb
      · omega
      · split at hb
        · omega
        · split at hb
          · omega
          · split at hb
            · omega
            · split at hb
              next e => have := hlt b e; omega
              · exact absurd rfl hb
  · refine (hG2.congr fun j hj => ?_).of_block (hg3.block G (by omega) (by simp))
    match j, hj with
    | 0, _ => rfl
    | 1, _ => rfl
    | 2, _ => rfl
  · show tag0 M1 M2 G S (.slice ta n tc) G = .g
    simp only [tag0, updT, if_pos]
    rw [if_neg (by omega)]
  · exact hmS.of_block ((hg3.block S (by omega) (by simp)).trans (hg2.block S (by omega) (by simp; omega)))
  · show tag0 M1 M2 G S (.slice ta n tc) S = .s
    simp only [tag0, updT, if_pos]
    rw [if_neg (by omega), if_neg (by omega), if_neg (by omega)]
  · exact ⟨World.ownsRow_nil _ _ _ _, fun b hb => by cases hb⟩
  · exact (hT.of_block fun b hb' => hb b (by have := hlt b hb'; omega) (by have := hlt b hb'; omega)).mono (by show M1 ≤ G + 2; omega)
  · intro b hb'
    have := hlt b hb'
    show tag0 M1 M2 G S (.slice ta n tc) b = .t
    have e : (Value.slice ta n tc).ownBlock = some b := hb'
    simp only [tag0, updT]
    rw [if_neg (by omega), if_neg (by omega), if_neg (by omega), if_neg (by omega), if_neg (by omega), if_pos e]
  · show tag0 M1 M2 G S (.slice ta n tc) M1 = .m1
    simp [tag0, updT]
  · show tag0 M1 M2 G S (.slice ta n tc) M2 = .m2
    simp only [tag0, updT, if_pos]
    rw [if_neg (by omega), if_neg (by omega)]
  · show tag0 M1 M2 G S (.slice ta n tc) (S + 1) = .m3
    simp only [tag0, updT, if_pos]
    rw [if_neg (by omega), if_neg (by omega), if_neg (by omega), if_neg (by omega)]

end Go.Proofs.Qxb6601382a
