/- The memory of buildPrecedence: who owns which block, and what each step turns. -/
import Derived.Test.Qxb6601382aMaps
import Derived.Deep.OwnRows
import Derived.Deep.AppendLies
import Derived.Below
namespace Go.Proofs.Qxb6601382a
open Go.RowKit

/-- Who owns a block. -/
structure Tag where
  kind : Nat
  num : Nat
  key : List UInt8
abbrev Tag.no : Tag := ⟨0, 0, []⟩
abbrev Tag.g : Tag := ⟨1, 0, []⟩
abbrev Tag.m1 : Tag := ⟨2, 0, []⟩
abbrev Tag.m2 : Tag := ⟨3, 0, []⟩
abbrev Tag.m3 : Tag := ⟨4, 0, []⟩
abbrev Tag.s : Tag := ⟨5, 0, []⟩
abbrev Tag.t : Tag := ⟨6, 0, []⟩
abbrev Tag.suc (j : Nat) : Tag := ⟨7, j, []⟩
abbrev Tag.acc (k : List UInt8) : Tag := ⟨8, 0, k⟩
abbrev Tag.rd (k : List UInt8) : Tag := ⟨9, 0, k⟩

def ints (l : List Int) : List Value := l.map (Value.int .i64)
def OwnI (w : World) (B : Nat) (v : Value) (l : List Int) : Prop := w.ownsRow B 3 1 v l.length (ints l)
def gF (named : Int) (tv sv : Value) : Nat → Value
  | 0 => .int .i64 named
  | 1 => tv
  | _ => sv
def aF (wr : Int) (rv : Value) : Nat → Value
  | 0 => .int .i64 wr
  | _ => rv
def updT (tag : Nat → Tag) (b : Nat) (u : Tag) : Nat → Tag := fun x => if x = b then u else tag x
def updV (sv : Nat → Value) (j : Nat) (v : Value) : Nat → Value := fun x => if x = j then v else sv x
def updK {α : Type} (f : List UInt8 → α) (k : List UInt8) (v : α) : List UInt8 → α := fun x => if x = k then v else f x

theorem OwnI.of_block {w w' : World} {B : Nat} {v : Value} {l : List Int} (h : OwnI w B v l) (hb : ∀ b, v.ownBlock = some b → w'.heap[b]? = w.heap[b]?) : OwnI w' B v l := by
  refine ⟨h.1, ?_⟩
  rcases h.2 with hn | ⟨g, cap, cur, rfl, hbb, hgg, rest⟩
  · exact .inl hn
  · exact .inr ⟨g, cap, cur, rfl, hbb, (hb g rfl).trans hgg, rest⟩
theorem ownsMap_of_block {P : Program} {k : TypeId} {R : Value → Option (DataW Unit × List MemPlace)} {w w' : World} {b n : Nat} {D : DataW Unit} (h : w.ownsMap P k R b n D) (hb : w'.heap[b]? = w.heap[b]?) : w'.ownsMap P k R b n D := by
  obtain ⟨es, clock, h1, r⟩ := h
  exact ⟨es, clock, hb.trans h1, r⟩
theorem MapB.of_block {w w' : World} {b n : Nat} {ks : List Int} {ab : Int → Bool} (h : MapB w b n ks ab) (hb : w'.heap[b]? = w.heap[b]?) : MapB w' b n ks ab := by
  obtain ⟨D, h1, h2⟩ := h
  exact ⟨D, ownsMap_of_block h1 hb, h2⟩
theorem MapN.of_block {w w' : World} {b n : Nat} {N : Int → Nat} (h : MapN w b n N) (hb : w'.heap[b]? = w.heap[b]?) : MapN w' b n N := by
  obtain ⟨D, h1, h2⟩ := h
  exact ⟨D, ownsMap_of_block h1 hb, h2⟩
theorem MapP.of_block {w w' : World} {b n : Nat} {f : List UInt8 → Option Nat} (h : MapP w b n f) (hb : w'.heap[b]? = w.heap[b]?) : MapP w' b n f := by
  obtain ⟨D, h1, h2⟩ := h
  exact ⟨D, ownsMap_of_block h1 hb, h2⟩
theorem MapP.congr {w : World} {b n : Nat} {f f' : List UInt8 → Option Nat} (h : MapP w b n f) (e : ∀ k, f k = f' k) : MapP w b n f' := by
  have : f = f' := funext e
  exact this ▸ h

/-- What is fixed while the operations are gone through: the base, the blocks, the tables. -/
structure Fix where
  B : Nat
  M1 : Nat
  M2 : Nat
  M3 : Nat
  G : Nat
  S : Nat
  n : Nat
  c1 : Nat
  c2 : Nat
  ks : List Int
  ab : Int → Bool
  N : Int → Nat
  tv : Value
  T : List Int

structure Rep (F : Fix) (w : World) (c3 : Nat) (tag : Nat → Tag) (sv : Nat → Value) (bl : List UInt8 → Nat) (rv : List UInt8 → Value) (L : Nat → List Int) (I : Items) : Prop where
  lt : ∀ b, tag b ≠ .no → F.B ≤ b ∧ b < w.heap.size
  g : w.rowIs F.G 52 3 (gF F.ks.length F.tv (.slice (some ⟨F.S, 0, none⟩) F.n F.n))
  tg : tag F.G = .g
  s : w.rowIs F.S 24 F.n sv
  ts : tag F.S = .s
  suc : ∀ j, j < F.n → OwnI w F.B (sv j) (L j) ∧ ∀ b, (sv j).ownBlock = some b → tag b = .suc j
  t : OwnI w F.B F.tv F.T
  tt : ∀ b, F.tv.ownBlock = some b → tag b = .t
  m1 : MapB w F.M1 F.c1 F.ks F.ab
  tm1 : tag F.M1 = .m1
  m2 : MapN w F.M2 F.c2 F.N
  tm2 : tag F.M2 = .m2
  m3 : MapP w F.M3 c3 (fun k => (I k).map fun _ => bl k)
  tm3 : tag F.M3 = .m3
  acc : ∀ k p, I k = some p → w.rowIs (bl k) 66 2 (aF p.1 (rv k)) ∧ tag (bl k) = .acc k ∧ OwnI w F.B (rv k) p.2 ∧ ∀ b, (rv k).ownBlock = some b → tag b = .rd k

/-- From w to w' nothing but what bears a tag in C has turned. -/
def Keeps (w w' : World) (tag tag' : Nat → Tag) (C : Tag → Prop) : Prop := ∀ b, tag b ≠ .no → ¬ C (tag b) → w'.heap[b]? = w.heap[b]? ∧ tag' b = tag b

section
variable {F : Fix} {w w' : World} {c3 : Nat} {tag tag' : Nat → Tag} {sv : Nat → Value} {bl : List UInt8 → Nat} {rv : List UInt8 → Value} {L : Nat → List Int} {I : Items} {C : Tag → Prop}

theorem Keeps.own {B : Nat} {v : Value} {l : List Int} {T : Tag} (K : Keeps w w' tag tag' C) (h : OwnI w B v l) (ht : ∀ b, v.ownBlock = some b → tag b = T) (h0 : T ≠ .no) (hC : ¬ C T) : OwnI w' B v l ∧ ∀ b, v.ownBlock = some b → tag' b = T :=
  ⟨h.of_block fun b hb => (K b (by rw [ht b hb]; exact h0) (by rw [ht b hb]; exact hC)).1, fun b hb => (K b (by rw [ht b hb]; exact h0) (by rw [ht b hb]; exact hC)).2.trans (ht b hb)⟩

theorem Keeps.at {b : Nat} {T : Tag} (K : Keeps w w' tag tag' C) (ht : tag b = T) (h0 : T ≠ .no) (hC : ¬ C T) : w'.heap[b]? = w.heap[b]? ∧ tag' b = T := by
  have := K b (by rw [ht]; exact h0) (by rw [ht]; exact hC)
  exact ⟨this.1, this.2.trans ht⟩

theorem Rep.keep (h : Rep F w c3 tag sv bl rv L I) (hs : w.heap.size ≤ w'.heap.size) (K : Keeps w w' tag tag fun _ => False) : Rep F w' c3 tag sv bl rv L I where
  lt b hb := ⟨(h.lt b hb).1, Nat.lt_of_lt_of_le (h.lt b hb).2 hs⟩
  g := h.g.of_block (K.at h.tg (by simp) (by simp)).1
  tg := h.tg
  s := h.s.of_block (K.at h.ts (by simp) (by simp)).1
  ts := h.ts
  suc j hj := K.own (h.suc j hj).1 (h.suc j hj).2 (by simp) (by simp)
  t := (K.own h.t h.tt (by simp) (by simp)).1
  tt := h.tt
  m1 := h.m1.of_block (K.at h.tm1 (by simp) (by simp)).1
  tm1 := h.tm1
  m2 := h.m2.of_block (K.at h.tm2 (by simp) (by simp)).1
  tm2 := h.tm2
  m3 := h.m3.of_block (K.at h.tm3 (by simp) (by simp)).1
  tm3 := h.tm3
  acc k p hp := by
    obtain ⟨a1, a2, a3, a4⟩ := h.acc k p hp
    exact ⟨a1.of_block (K.at a2 (by simp) (by simp)).1, a2, K.own a3 a4 (by simp) (by simp)⟩

/-- Blocks that nobody owns are made or written: all stands. -/
theorem Rep.grown {row : Option Nat} (h : Rep F w c3 tag sv bl rv L I) (hg : w.grownBy w' row) (hr : ∀ b, row = some b → tag b = .no) : Rep F w' c3 tag sv bl rv L I :=
  h.keep hg.size fun b hb _ => ⟨hg.block b (h.lt b hb).2 fun e => hb (hr b e.symm), rfl⟩
theorem Rep.alloc (h : Rep F w c3 tag sv bl rv L I) (o : Obj) : Rep F (w.alloc o) c3 tag sv bl rv L I := h.grown (World.grownBy_alloc w o none) fun b hb => by cases hb
theorem Rep.same (h : Rep F w c3 tag sv bl rv L I) (e : w'.heap = w.heap) : Rep F w' c3 tag sv bl rv L I := h.keep (by rw [e]; exact Nat.le_refl _) fun b _ _ => ⟨by rw [e], rfl⟩
theorem Rep.mono (h : Rep F w c3 tag sv bl rv L I) {c : Nat} (hc : c3 ≤ c) : Rep F w c tag sv bl rv L I := { h with m3 := by obtain ⟨D, h1, h2⟩ := h.m3; exact ⟨D, h1.mono hc, h2⟩ }

/-- succ[j] has grown: its row was appended to (in place or anew), its header stored. -/
theorem Rep.putSuc {j gg : Nat} {v' : Value} {x : Int} (h : Rep F w c3 tag sv bl rv L I) (hj : j < F.n) (hs : w.heap.size ≤ w'.heap.size) (K : Keeps w w' tag tag (· = .suc j))
    (hown : OwnI w' F.B v' (L j ++ [x])) (hv : v'.ownBlock = some gg) (hgg : (sv j).ownBlock = some gg ∨ w.heap.size ≤ gg) (hlt : gg < w'.heap.size) :
    Rep F (w'.setCell ⟨F.S, j, none⟩ v') c3 (updT tag gg (.suc j)) (updV sv j v') bl rv (fun i => if i = j then L i ++ [x] else L i) I := by
  have hB : F.B ≤ gg := (hown.lt gg hv).1
  have hsz : (w'.setCell ⟨F.S, j, none⟩ v').heap.size = w'.heap.size := by simp
  have K2 : Keeps w (w'.setCell ⟨F.S, j, none⟩ v') tag (updT tag gg (.suc j)) fun u => u = .suc j ∨ u = .s := fun b hb hC => by
    have h1 := (K b hb fun e => hC (.inl e)).1
    have hbS : b ≠ F.S := fun e => hC (.inr (by rw [e, h.ts]))
    have hbg : b ≠ gg := fun e => by
      rcases hgg with hgg | hgg
      · exact hC (.inl (by rw [e]; exact (h.suc j hj).2 gg hgg))
      · have := (h.lt b hb).2; omega
    exact ⟨(Below.heap_setCell w' _ v' b (by exact hbS)).trans h1, by simp [updT, hbg]⟩
  have hSg : F.S ≠ gg := fun e => by
    rcases hgg with hgg | hgg
    · have := (h.suc j hj).2 gg hgg; rw [← e, h.ts] at this; cases this
    · have := (h.lt F.S (by rw [h.ts]; simp)).2; omega
  have hS' : w'.rowIs F.S 24 F.n sv := h.s.of_block (K F.S (by rw [h.ts]; simp) (by rw [h.ts]; simp)).1
  refine { lt := fun b hb => ?_, g := h.g.of_block (K2.at h.tg (by simp) (by simp)).1, tg := (K2.at h.tg (by simp) (by simp)).2, s := ?_, ts := by simp [updT, hSg, h.ts], suc := fun i hi => ?_, t := (K2.own h.t h.tt (by simp) (by simp)).1, tt := (K2.own h.t h.tt (by simp) (by simp)).2,
           m1 := h.m1.of_block (K2.at h.tm1 (by simp) (by simp)).1, tm1 := (K2.at h.tm1 (by simp) (by simp)).2, m2 := h.m2.of_block (K2.at h.tm2 (by simp) (by simp)).1, tm2 := (K2.at h.tm2 (by simp) (by simp)).2,
           m3 := h.m3.of_block (K2.at h.tm3 (by simp) (by simp)).1, tm3 := (K2.at h.tm3 (by simp) (by simp)).2, acc := fun k p hp => ?_ }
  · rw [hsz]
    unfold updT at hb
    split at hb
    next e => subst e; exact ⟨hB, hlt⟩
    · exact ⟨(h.lt b hb).1, Nat.lt_of_lt_of_le (h.lt b hb).2 hs⟩
  · exact hS'.set j v'
  · by_cases e : i = j
    · subst e
      simp only [updV, if_pos]
      refine ⟨hown.of_block fun b hb => ?_, fun b hb => ?_⟩
      · rw [hv] at hb; cases hb
        exact Below.heap_setCell w' _ v' gg (by exact Ne.symm hSg)
      · rw [hv] at hb; cases hb
        simp [updT]
    · simp only [updV, if_neg e]
      exact K2.own (h.suc i hi).1 (h.suc i hi).2 (by simp) (by simp [e])
  · obtain ⟨a1, a2, a3, a4⟩ := h.acc k p hp
    exact ⟨a1.of_block (K2.at a2 (by simp) (by simp)).1, (K2.at a2 (by simp) (by simp)).2, K2.own a3 a4 (by simp) (by simp)⟩

/-- An item's record is written: its two cells, its readers' row. -/
theorem Rep.putAcc {k : List UInt8} {p p' : Int × List Int} {w2 : World} {tag' : Nat → Tag} {rv' : Value} (h : Rep F w c3 tag sv bl rv L I) (hp : I k = some p)
    (K : Keeps w w2 tag tag' fun u => u = .acc k ∨ u = .rd k) (ht' : ∀ b, tag' b ≠ .no → F.B ≤ b ∧ b < w2.heap.size) (hr : w2.rowIs (bl k) 66 2 (aF p'.1 rv')) (hta : tag' (bl k) = .acc k) (hown : OwnI w2 F.B rv' p'.2) (htr : ∀ b, rv'.ownBlock = some b → tag' b = .rd k) :
    Rep F w2 c3 tag' sv bl (updK rv k rv') L (setI I k p') := by
  refine { lt := ht', g := h.g.of_block (K.at h.tg (by simp) (by simp)).1, tg := (K.at h.tg (by simp) (by simp)).2, s := h.s.of_block (K.at h.ts (by simp) (by simp)).1, ts := (K.at h.ts (by simp) (by simp)).2, suc := fun i hi => K.own (h.suc i hi).1 (h.suc i hi).2 (by simp) (by simp), t := (K.own h.t h.tt (by simp) (by simp)).1, tt := (K.own h.t h.tt (by simp) (by simp)).2,
           m1 := h.m1.of_block (K.at h.tm1 (by simp) (by simp)).1, tm1 := (K.at h.tm1 (by simp) (by simp)).2, m2 := h.m2.of_block (K.at h.tm2 (by simp) (by simp)).1, tm2 := (K.at h.tm2 (by simp) (by simp)).2,
           m3 := (h.m3.of_block (K.at h.tm3 (by simp) (by simp)).1).congr fun x => ?_, tm3 := (K.at h.tm3 (by simp) (by simp)).2, acc := fun x q hq => ?_ }
  · unfold setI
    by_cases e : x = k
    · subst e; simp [hp]
    · simp [e]
  · unfold setI at hq
    by_cases e : x = k
    · subst e
      simp at hq
      subst hq
      simp only [updK, if_pos]
      exact ⟨hr, hta, hown, htr⟩
    · rw [if_neg e] at hq
      obtain ⟨a1, a2, a3, a4⟩ := h.acc x q hq
      simp only [updK, if_neg e]
      exact ⟨a1.of_block (K.at a2 (by simp) (by simp [e])).1, (K.at a2 (by simp) (by simp [e])).2, K.own a3 a4 (by simp) (by simp [e])⟩

/-- A new item's record: its block is new, the map bears it. -/
theorem Rep.newAcc {k : List UInt8} {p' : Int × List Int} {w2 : World} {c : Nat} {H : Nat} {rv' : Value} (h : Rep F w c3 tag sv bl rv L I) (hk : I k = none) (hH : w.heap.size ≤ H) (hHlt : H < w2.heap.size) (hs : w.heap.size ≤ w2.heap.size) (hB : F.B ≤ H)
    (K : Keeps w w2 tag tag fun u => u = .m3) (hm : MapP w2 F.M3 c (updP (fun k => (I k).map fun _ => bl k) k H)) (hr : w2.rowIs H 66 2 (aF p'.1 rv')) (hown : OwnI w2 F.B rv' p'.2) (hn : rv'.ownBlock = none) :
    Rep F w2 c (updT tag H (.acc k)) sv (updK bl k H) (updK rv k rv') L (setI I k p') := by
  have K2 : Keeps w w2 tag (updT tag H (.acc k)) fun u => u = .m3 := fun b hb hC => by
    have h1 := K b hb hC
    have : b ≠ H := by have := (h.lt b hb).2; omega
    exact ⟨h1.1, by simp [updT, this]⟩
  have hM : F.M3 ≠ H := by have := (h.lt F.M3 (by rw [h.tm3]; simp)).2; omega
  refine { lt := fun b hb => ?_, g := h.g.of_block (K2.at h.tg (by simp) (by simp)).1, tg := (K2.at h.tg (by simp) (by simp)).2, s := h.s.of_block (K2.at h.ts (by simp) (by simp)).1, ts := (K2.at h.ts (by simp) (by simp)).2, suc := fun i hi => K2.own (h.suc i hi).1 (h.suc i hi).2 (by simp) (by simp), t := (K2.own h.t h.tt (by simp) (by simp)).1, tt := (K2.own h.t h.tt (by simp) (by simp)).2,
           m1 := h.m1.of_block (K2.at h.tm1 (by simp) (by simp)).1, tm1 := (K2.at h.tm1 (by simp) (by simp)).2, m2 := h.m2.of_block (K2.at h.tm2 (by simp) (by simp)).1, tm2 := (K2.at h.tm2 (by simp) (by simp)).2,
           m3 := hm.congr fun x => ?_, tm3 := by simp [updT, hM, h.tm3], acc := fun x q hq => ?_ }
  · unfold updT at hb
    split at hb
    next e => subst e; exact ⟨hB, hHlt⟩
    · exact ⟨(h.lt b hb).1, Nat.lt_of_lt_of_le (h.lt b hb).2 hs⟩
  · unfold setI updP updK
    by_cases e : x = k <;> simp [e]
  · unfold setI at hq
    by_cases e : x = k
    · subst e
      simp at hq
      subst hq
      simp only [updK, if_pos]
      exact ⟨hr, by simp [updT], hown, fun b hb => by rw [hn] at hb; cases hb⟩
    · rw [if_neg e] at hq
      obtain ⟨a1, a2, a3, a4⟩ := h.acc x q hq
      simp only [updK, if_neg e]
      exact ⟨a1.of_block (K2.at a2 (by simp) (by simp)).1, (K2.at a2 (by simp) (by simp)).2, K2.own a3 a4 (by simp) (by simp)⟩
end
end Go.Proofs.Qxb6601382a
