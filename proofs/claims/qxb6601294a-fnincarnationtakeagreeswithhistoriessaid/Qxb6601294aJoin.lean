/- runJoin (32): a history takes a heartbeat. -/
import Derived.Test.Qxb6601294aHistWalks
import Derived.Deep.AppendLies
import Derived.OwnWalk
namespace Go.Proofs.Qxb6601294a
open Go.RowKit

def flat (l : List Hb) : List Value := l.flatMap fun h => [.int .u64 h.id, .int .i64 h.s, .int .i64 h.r]

/-- The slice value v holds the history l, in a block of the call's own from base on (or it is nil, and l is empty). -/
def Hist (w : World) (base : Nat) (v : Value) (l : List Hb) : Prop := w.ownsRow base 52 3 v l.length (flat l)

theorem flat_len (l : List Hb) : (flat l).length = l.length * 3 := by
  induction l with
  | nil => rfl
  | cons x t ih =>
    have : flat (x :: t) = [.int .u64 x.id, .int .i64 x.s, .int .i64 x.r] ++ flat t := by simp [flat]
    rw [this, List.length_append, ih]
    simp
    omega

theorem flat_get (l : List Hb) (i : Nat) (h : i < l.length) : (flat l)[i * 3]? = some (.int .u64 l[i].id) ∧ (flat l)[i * 3 + 1]? = some (.int .i64 l[i].s) ∧ (flat l)[i * 3 + 2]? = some (.int .i64 l[i].r) := by
  induction l generalizing i with
  | nil => simp at h
  | cons x t ih =>
    have e : flat (x :: t) = [.int .u64 x.id, .int .i64 x.s, .int .i64 x.r] ++ flat t := by simp [flat]
    cases i with
    | zero => simp [e]
    | succ i =>
      have := ih i (by simpa using h)
      rw [e]
      simp only [List.getElem_cons_succ]
      rw [List.getElem?_append_right (by simp; omega), List.getElem?_append_right (by simp; omega), List.getElem?_append_right (by simp; omega)]
      simp only [List.length_cons, List.length_nil]
      rw [show (i + 1) * 3 - (0 + 1 + 1 + 1) = i * 3 by omega, show (i + 1) * 3 + 1 - (0 + 1 + 1 + 1) = i * 3 + 1 by omega, show (i + 1) * 3 + 2 - (0 + 1 + 1 + 1) = i * 3 + 2 by omega]
      exact this

theorem Hist.hl {w : World} {base : Nat} {v : Value} {l : List Hb} (h : Hist w base v l) {g : Nat} (hg : v.ownBlock = some g) : HL w g l := by
  intro i hi
  obtain ⟨a, b, c⟩ := flat_get l i hi
  have k := World.ownsRow.cells h hg
  have k0 := k _ _ a
  have k1 := k _ _ b
  have k2 := k _ _ c
  simp only [WideShapes.add_plain, Nat.zero_add] at k0 k1 k2
  exact ⟨k0, k1, k2⟩

theorem Hist.below {w w' : World} {B base : Nat} {v : Value} {l : List Hb} (h : Hist w base v l) (hb : Below B w w') (hv : ∀ g, v.ownBlock = some g → g < B) : Hist w' base v l := by
  obtain ⟨h1, h2⟩ := h
  refine ⟨h1, ?_⟩
  rcases h2 with h2 | ⟨g, cap, cur, hv', hg, hh, r⟩
  · exact Or.inl h2
  · exact Or.inr ⟨g, cap, cur, hv', hg, by rw [hb.block g (hv g (by rw [hv']; rfl))]; exact hh, r⟩

theorem flat_snoc (l : List Hb) (h : Hb) : flat (l ++ [h]) = flat l ++ [.int .u64 h.id, .int .i64 h.s, .int .i64 h.r] := by simp [flat]

set_option maxHeartbeats 400000 in
theorem join_add (v : Value) (base : Nat) (l : List Hb) (h : Hb) (a : Int) (w : World) (hh : Hist w base v l) (hlen : l.length ≤ 5000) (hbase : base ≤ w.heap.size) (ha : (a == 2) = false) :
    Calls Try.prog 32 #[v, .agg #[.int .u64 h.id, .int .i64 h.s, .int .i64 h.r], .int .u8 a] w fun e w' => ∃ g cap, e = .returned (.slice (some ⟨g, 0, none⟩) (l.length + 1) cap) ∧
      Hist w' base (.slice (some ⟨g, 0, none⟩) (l.length + 1) cap) (l ++ [h]) ∧ g < w'.heap.size ∧ (v.ownBlock = some g ∨ w.heap.size ≤ g) ∧ w.grownBy w' v.ownBlock := by
  obtain ⟨i0, hi, hz, hs, hb⟩ := info_parts info52
  have hm : l.length + 1 ≤ maxLen := by unfold maxLen; omega
  go_enter Try.func32, Try.ntmps32
  go_wp2_with (at_builtin; refine wpList_append_lies _ rfl _ _ 48 rfl base 52 i0 (.agg #[.int .u64 0, .int .i64 0, .int .i64 0]) 3 24 Try.underlying48 hi hz hs hb rfl (by decide) v l.length (flat l) rfl ?hown ⟨w.heap.size + 1, 0, none⟩ 1 1 [.int .u64 h.id, .int .i64 h.s, .int .i64 h.r] rfl rfl ?hnews ?hone (by decide) hm ?hby ?hbase (w.heap.size + 2) ?hsz ?_)
  case hown => exact World.ownsRow.alloc (World.ownsRow.alloc hh _) _
  case hnews => exact World.news_of_block (cs := #[.int .u64 h.id, .int .i64 h.s, .int .i64 h.r]) (t := 52) (fr := (0, 0)) (by have e := (MapKept.heap_alloc (w.alloc (.cells #[.int .u64 h.id, .int .i64 h.s, .int .i64 h.r] 52)) (.cells #[.int .u64 h.id, .int .i64 h.s, .int .i64 h.r] 52)).1; rw [World.size_alloc] at e; exact e)
  case hone => intro u hu; simp at hu; rcases hu with rfl | rfl | rfl <;> rfl
  case hby => omega
  case hbase => simp; omega
  case hsz => simp
  intro g cap w1 hown hgrow hat hlt
  have hgr : w.grownBy w1 v.ownBlock := by
    refine ⟨hgrow.os, hgrow.tape, hgrow.output, ?_, fun k hk hne => ?_⟩
    · have := hgrow.size; simp at this; omega
    · rw [hgrow.block k (by simp; omega) hne, Below.heap_alloc _ _ _ (by simp; omega), Below.heap_alloc _ _ _ hk]
  have hat' : v.ownBlock = some g ∨ w.heap.size ≤ g := by
    rcases hat with h | h
    · exact Or.inl h
    · exact Or.inr (by omega)
  have hH : Hist w1 base (.slice (some ⟨g, 0, none⟩) (l.length + 1) cap) (l ++ [h]) := by
    unfold Hist
    rw [flat_snoc, List.length_append]
    exact hown
  clear hown hgrow hat
  go_wp2
  go_ret
  exact ⟨g, cap, rfl, hH, hlt, hat', hgr⟩

set_option maxHeartbeats 400000 in
theorem join_new (v : Value) (base : Nat) (h : Hb) (w : World) (hbase : base ≤ w.heap.size) :
    Calls Try.prog 32 #[v, .agg #[.int .u64 h.id, .int .i64 h.s, .int .i64 h.r], .int .u8 2] w fun e w' => ∃ g cap, e = .returned (.slice (some ⟨g, 0, none⟩) 1 cap) ∧
      Hist w' base (.slice (some ⟨g, 0, none⟩) 1 cap) [h] ∧ g < w'.heap.size ∧ w.heap.size ≤ g ∧ w.grownBy w' none := by
  go_enter Try.func32, Try.ntmps32
  go_wp2
  go_ret
  refine ⟨w.heap.size + 1, 1, rfl, ⟨by simp [flat], Or.inr ⟨w.heap.size + 1, 1, #[.int .u64 h.id, .int .i64 h.s, .int .i64 h.r], rfl, by omega, ?_, by simp, by unfold maxLen; omega, by simp, by simp [flat]⟩⟩, by simp, by omega, ?_⟩
  · have e := (MapKept.heap_alloc (w.alloc (.cells #[.int .u64 h.id, .int .i64 h.s, .int .i64 h.r] 52)) (.cells #[.int .u64 h.id, .int .i64 h.s, .int .i64 h.r] 52)).1
    rw [World.size_alloc] at e
    exact e
  · refine ⟨rfl, rfl, rfl, by simp; omega, fun k hk _ => ?_⟩
    rw [Below.heap_alloc _ _ _ (by simp; omega), Below.heap_alloc _ _ _ hk]

/-- A history in a slot: nil and empty, or not empty and in a block of the call's own. -/
def HistV (w : World) (base : Nat) (v : Value) (l : List Hb) : Prop :=
  (l = [] ∧ v = .slice none 0 0) ∨ (l ≠ [] ∧ ∃ g cap, v = .slice (some ⟨g, 0, none⟩) l.length cap ∧ base ≤ g ∧ g < w.heap.size ∧ Hist w base v l)

theorem HistV.hist {w : World} {base : Nat} {v : Value} {l : List Hb} (h : HistV w base v l) : Hist w base v l := by
  rcases h with ⟨rfl, rfl⟩ | ⟨_, _, _, _, _, _, h⟩
  · exact World.ownsRow_nil _ _ _ _
  · exact h
theorem HistV.lt {w : World} {base : Nat} {v : Value} {l : List Hb} (h : HistV w base v l) : ∀ g, v.ownBlock = some g → base ≤ g ∧ g < w.heap.size := by
  rcases h with ⟨rfl, rfl⟩ | ⟨_, g, cap, rfl, h1, h2, _⟩
  · intro g hg; cases hg
  · intro g' hg; cases hg; exact ⟨h1, h2⟩
theorem HistV.of_block {w w' : World} {base : Nat} {v : Value} {l : List Hb} (h : HistV w base v l) (hs : w.heap.size ≤ w'.heap.size) (hb : ∀ g, v.ownBlock = some g → w'.heap[g]? = w.heap[g]?) : HistV w' base v l := by
  rcases h with h | ⟨h0, g, cap, rfl, h1, h2, h3⟩
  · exact Or.inl h
  · refine Or.inr ⟨h0, g, cap, rfl, h1, by omega, ?_⟩
    obtain ⟨k1, k2⟩ := h3
    refine ⟨k1, ?_⟩
    rcases k2 with k2 | ⟨g', cap', cur, hv', hg', hh, r⟩
    · exact Or.inl k2
    · exact Or.inr ⟨g', cap', cur, hv', hg', by rw [hb g' (by rw [hv']; rfl)]; exact hh, r⟩

theorem class_any (v : Value) (base : Nat) (l : List Hb) (h : Hb) (w : World) (hv : HistV w base v l) (hm : l.length ≤ 1048576) :
    Calls Try.prog 31 #[v, .agg #[.int .u64 h.id, .int .i64 h.s, .int .i64 h.r]] w fun e w' => e = .returned (.int .u8 (cls l h)) ∧ Below w.heap.size w w' := by
  rcases hv with ⟨rfl, rfl⟩ | ⟨h0, g, cap, rfl, h1, h2, h3⟩
  · exact class_nil h w
  · exact class_some g l.length cap l h w rfl (List.length_pos_iff.2 h0) hm h2 (h3.hl rfl)

theorem join_any (v : Value) (base : Nat) (l : List Hb) (h : Hb) (a : Int) (w : World) (hv : HistV w base v l) (hlen : l.length ≤ 5000) (hbase : base ≤ w.heap.size) :
    Calls Try.prog 32 #[v, .agg #[.int .u64 h.id, .int .i64 h.s, .int .i64 h.r], .int .u8 a] w fun e w' => ∃ g n cap, e = .returned (.slice (some ⟨g, 0, none⟩) n cap) ∧ Hid (n = (joinL l h a).length) ∧ 0 < n ∧ n ≤ l.length + 1 ∧
      Hist w' base (.slice (some ⟨g, 0, none⟩) n cap) (joinL l h a) ∧ g < w'.heap.size ∧ (v.ownBlock = some g ∨ w.heap.size ≤ g) ∧ w.grownBy w' v.ownBlock := by
  by_cases ha : a = 2
  · subst ha
    refine (join_new v base h w hbase).mono ?_
    rintro e w' ⟨g, cap, h1, h2, h3, h4, h5⟩
    exact ⟨g, 1, cap, h1, by simp [joinL, Hid], by omega, by omega, by simpa [joinL] using h2, h3, Or.inr h4, ⟨h5.os, h5.tape, h5.output, h5.size, fun k hk _ => h5.block k hk (by simp)⟩⟩
  · refine (join_add v base l h a w hv.hist hlen hbase (by simpa using ha)).mono ?_
    rintro e w' ⟨g, cap, h1, h2, h3, h4, h5⟩
    exact ⟨g, l.length + 1, cap, h1, by simp [joinL, ha, Hid], by omega, by omega, by simpa [joinL, ha] using h2, h3, h4, h5⟩

/-- What lies in memory ahead of a round: the copy of the input, the two histories, apart. -/
structure St (w wr : World) (n : Nat) (I S R : Nat → Int) (vd vr : Value) (del riv : List Hb) : Prop where
  bel : Below w.heap.size w wr
  size : w.heap.size < wr.heap.size
  hb : HBat wr w.heap.size 0 n I S R
  hdel : HistV wr (w.heap.size + 1) vd del
  hriv : HistV wr (w.heap.size + 1) vr riv
  apart : ∀ g, vd.ownBlock = some g → vr.ownBlock = some g → False

theorem St.below {w wr w2 : World} {n : Nat} {I S R : Nat → Int} {vd vr : Value} {del riv : List Hb} (h : St w wr n I S R vd vr del riv) (hb : Below wr.heap.size wr w2) : St w w2 n I S R vd vr del riv :=
  ⟨h.bel.trans (hb.mono h.bel.size), Nat.lt_of_lt_of_le h.size hb.size, h.hb.below hb h.size, h.hdel.of_block hb.size (fun g hg => hb.block g (h.hdel.lt g hg).2), h.hriv.of_block hb.size (fun g hg => hb.block g (h.hriv.lt g hg).2), h.apart⟩

theorem St.joinDel {w wr w2 : World} {n : Nat} {I S R : Nat → Int} {vd vr : Value} {del riv : List Hb} (h : St w wr n I S R vd vr del riv) {g m cap : Nat} {l : List Hb} (hn : m = l.length) (hp : 0 < m)
    (hh : Hist w2 (w.heap.size + 1) (.slice (some ⟨g, 0, none⟩) m cap) l) (hlt : g < w2.heap.size) (hat : vd.ownBlock = some g ∨ wr.heap.size ≤ g) (hg : wr.grownBy w2 vd.ownBlock) :
    St w w2 n I S R (.slice (some ⟨g, 0, none⟩) m cap) (.slice none 0 0) l [] := by
  have hs := h.size
  have hbig : w.heap.size + 1 ≤ g := by
    rcases hat with h1 | h1
    · exact (h.hdel.lt g h1).1
    · omega
  have hne : ∀ k, k ≤ w.heap.size → some k ≠ vd.ownBlock := fun k hk e => by have := (h.hdel.lt k e.symm).1; omega
  subst hn
  refine ⟨h.bel.trans ⟨hg.os, hg.tape, hg.output, hg.size, fun k hk => hg.block k (by omega) (hne k (by omega))⟩, Nat.lt_of_lt_of_le hs hg.size, fun i hi => ?_, Or.inr ⟨by intro e; subst e; simp at hp, g, cap, rfl, hbig, hlt, hh⟩, Or.inl ⟨rfl, rfl⟩, fun _ _ hx => by cases hx⟩
  have hc : ∀ o, w2.cell? ⟨w.heap.size, o, none⟩ = wr.cell? ⟨w.heap.size, o, none⟩ := fun o => World.cell?_of_block (w := wr) (hg.block _ hs (hne _ (Nat.le_refl _)))
  rw [hc, hc, hc]
  exact h.hb i hi

theorem St.joinRiv {w wr w2 : World} {n : Nat} {I S R : Nat → Int} {vd vr : Value} {del riv : List Hb} (h : St w wr n I S R vd vr del riv) {g m cap : Nat} {l : List Hb} (hn : m = l.length) (hp : 0 < m)
    (hh : Hist w2 (w.heap.size + 1) (.slice (some ⟨g, 0, none⟩) m cap) l) (hlt : g < w2.heap.size) (hat : vr.ownBlock = some g ∨ wr.heap.size ≤ g) (hg : wr.grownBy w2 vr.ownBlock) :
    St w w2 n I S R vd (.slice (some ⟨g, 0, none⟩) m cap) del l := by
  have hs := h.size
  have hbig : w.heap.size + 1 ≤ g := by
    rcases hat with h1 | h1
    · exact (h.hriv.lt g h1).1
    · omega
  have hne : ∀ k, k ≤ w.heap.size → some k ≠ vr.ownBlock := fun k hk e => by have := (h.hriv.lt k e.symm).1; omega
  subst hn
  refine ⟨h.bel.trans ⟨hg.os, hg.tape, hg.output, hg.size, fun k hk => hg.block k (by omega) (hne k (by omega))⟩, Nat.lt_of_lt_of_le hs hg.size, fun i hi => ?_, h.hdel.of_block hg.size (fun k hk => hg.block k (h.hdel.lt k hk).2 (fun e => h.apart k hk e.symm)),
    Or.inr ⟨by intro e; subst e; simp at hp, g, cap, rfl, hbig, hlt, hh⟩, fun k hk hx => ?_⟩
  · have hc : ∀ o, w2.cell? ⟨w.heap.size, o, none⟩ = wr.cell? ⟨w.heap.size, o, none⟩ := fun o => World.cell?_of_block (w := wr) (hg.block _ hs (hne _ (Nat.le_refl _)))
    rw [hc, hc, hc]
    exact h.hb i hi
  · have e : g = k := by simpa [Value.ownBlock] using hx
    subst e
    rcases hat with h1 | h1
    · exact h.apart g hk h1
    · have := (h.hdel.lt g hk).2; omega

theorem St.over {w wr : World} {n : Nat} {I S R : Nat → Int} {vd vr : Value} {del riv : List Hb} (h : St w wr n I S R vd vr del riv) : St w wr n I S R vr (.slice none 0 0) riv [] :=
  ⟨h.bel, h.size, h.hb, h.hriv, Or.inl ⟨rfl, rfl⟩, fun _ _ hx => by cases hx⟩
theorem St.drop {w wr : World} {n : Nat} {I S R : Nat → Int} {vd vr : Value} {del riv : List Hb} (h : St w wr n I S R vd vr del riv) : St w wr n I S R vd (.slice none 0 0) del [] :=
  ⟨h.bel, h.size, h.hb, h.hdel, Or.inl ⟨rfl, rfl⟩, fun _ _ hx => by cases hx⟩
end Go.Proofs.Qxb6601294a
