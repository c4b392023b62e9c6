/- What the law on closures stands on: the names seen, the flags, the sorted nodes. -/
import Derived.Test.Qxb6601382aBfs
import Derived.Test.Qxb6601382aIns
namespace Go.Proofs.Qxb6601382a
open Go.RowKit

def OwnB (w : World) (B : Nat) (v : Value) (l : List Bool) : Prop := w.ownsRow B 4 1 v l.length (l.map Value.bool)
theorem OwnB.form {w : World} {B : Nat} {v : Value} {l : List Bool} (h : OwnB w B v l) : ∃ a c, v = .slice a l.length c := by
  rcases h.2 with ⟨rfl, h0⟩ | ⟨g, cap, cur, rfl, _⟩
  · exact ⟨none, 0, by rw [h0]⟩
  · exact ⟨_, _, rfl⟩
theorem OwnB.grown {w w' : World} {B : Nat} {v : Value} {l : List Bool} {row : Option Nat} (h : OwnB w B v l) (hg : w.grownBy w' row) (hne : v.ownBlock = none ∨ v.ownBlock ≠ row) : OwnB w' B v l := h.kept hg hne
theorem OwnB.get {w : World} {B n c : Nat} {a : Option Addr} {l : List Bool} (h : OwnB w B (.slice a n c) l) {k : Nat} (hk : k < l.length) : ∃ g, a = some ⟨g, 0, none⟩ ∧ w.cell? ⟨g, k, none⟩ = some (.bool l[k]) := by
  obtain ⟨g, cap, hv, -, -⟩ := World.ownsRow.form h (by omega)
  simp only [Value.slice.injEq] at hv
  obtain ⟨rfl, rfl, rfl⟩ := hv
  refine ⟨g, rfl, ?_⟩
  rw [World.ownsRow.cellAt h k (by omega)]
  simp [hk]
theorem OwnB.at {w : World} {B g n c : Nat} {l : List Bool} (h : OwnB w B (.slice (some ⟨g, 0, none⟩) n c) l) {k : Nat} (hk : k < l.length) : ∃ fd, w.cell? ⟨g, k, none⟩ = some (.bool fd) := by
  obtain ⟨g', hg, hc⟩ := h.get hk
  cases hg
  exact ⟨_, hc⟩
theorem set_last (l : List Bool) (x y : Bool) {m : Nat} (hm : l.length = m) : (l ++ [x]).set m y = l ++ [y] := by
  subst hm
  rw [List.set_append_right _ _ (Nat.le_refl _)]
  simp
theorem OwnB.store {w : World} {B g n c : Nat} {l : List Bool} (h : OwnB w B (.slice (some ⟨g, 0, none⟩) n c) l) (hn : l.length = n) (j : Nat) (x : Bool) : OwnB (w.setCell ⟨g, j, none⟩ (.bool x)) B (.slice (some ⟨g, 0, none⟩) n c) (l.set j x) := by
  subst hn
  have := World.ownsRow.stored h j (.bool x)
  unfold OwnB at this ⊢
  rw [List.length_set, List.map_set]
  exact this.1
theorem OwnB.app {w : World} {B c : Nat} {a : Option Addr} {l : List Bool} {x : Bool} (h : w.ownsRow B 4 1 (.slice a (l.length + 1) c) (l.length + 1) (l.map Value.bool ++ [.bool x])) : OwnB w B (.slice a (l ++ [x]).length c) (l ++ [x]) := by
  unfold OwnB
  rw [List.length_append, List.map_append]
  exact h
theorem OwnI.below {w w' : World} {B : Nat} {v : Value} {l : List Int} (h : OwnI w B v l) (hb : Below w.heap.size w w') : OwnI w' B v l := h.of_block fun b hb' => hb.block b (h.lt b hb').2

theorem names_nodup (ops : List POp) : (namesOf ops).Nodup := by
  suffices H : ∀ (l : List POp) (ks : List Int), ks.Nodup → (l.foldl (fun ks o => addK ks o.txn) ks).Nodup from H ops [] List.nodup_nil
  intro l
  induction l with
  | nil => intro ks h; exact h
  | cons a l ih =>
    intro ks h
    refine ih (addK ks a.txn) ?_
    unfold addK; split
    · exact h
    next e => rw [List.nodup_append]; exact ⟨h, by simp, fun x hx y hy => by simp at hy; subst hy; exact fun e' => e (e' ▸ hx)⟩
theorem ab_not {ops : List POp} {x : Int} (h : x ∉ namesOf ops) : abOf ops x = false := by
  cases hc : abOf ops x with
  | false => rfl
  | true =>
    obtain ⟨o, ho, h1⟩ := List.any_eq_true.1 hc
    simp at h1
    exact absurd (h1.1 ▸ mem_names ho) h
theorem names_le (ops : List POp) : (namesOf ops).length ≤ ops.length := by
  suffices H : ∀ (l : List POp) (ks : List Int), (l.foldl (fun ks o => addK ks o.txn) ks).length ≤ ks.length + l.length from by have := H ops []; simp only [List.length_nil, Nat.zero_add] at this; exact this
  intro l
  induction l with
  | nil => intro ks; simp
  | cons a l ih =>
    intro ks
    have h1 := ih (addK ks a.txn)
    have h2 : (addK ks a.txn).length ≤ ks.length + 1 := by unfold addK; split <;> simp
    simp only [List.foldl_cons, List.length_cons]
    omega

/-- The flags beside the names. -/
theorem flags_old {ks : List Int} (hnd : ks.Nodup) (ab : Int → Bool) {t : Int} (v : Bool) : ks.map (updB ab t v) = (ks.map ab).set (ks.idxOf t) v := by
  apply List.ext_getElem
  · simp
  · intro i h1 h2
    simp only [List.length_map] at h1
    rw [List.getElem_map, List.getElem_set, List.getElem_map]
    unfold updB
    by_cases e : ks[i] = t
    · have : ks.idxOf t = i := by rw [← e]; exact hnd.idxOf_getElem i h1
      rw [if_pos e, if_pos this]
    · have : ¬ ks.idxOf t = i := fun h => e (by subst h; exact List.getElem_idxOf h1)
      rw [if_neg e, if_neg this]
theorem flags_same {ks : List Int} (ab : Int → Bool) {t : Int} : ks.map (updB ab t (ab t)) = ks.map ab := by
  refine List.map_congr_left fun x _ => ?_
  unfold updB; by_cases e : x = t <;> simp [e]
theorem flags_new {ks : List Int} (ab : Int → Bool) {t : Int} (ht : t ∉ ks) (v : Bool) : (ks ++ [t]).map (updB ab t v) = ks.map ab ++ [v] := by
  rw [List.map_append]
  congr 1
  · refine List.map_congr_left fun x hx => ?_
    have : x ≠ t := fun e => ht (e ▸ hx)
    simp [updB, this]
  · simp [updB]

theorem sorted_eq {l l' : List Int} (h : l.Perm l') (h1 : l.Pairwise (· ≤ ·)) (h2 : l'.Pairwise (· ≤ ·)) : l = l' :=
  h.eq_of_pairwise (fun _ _ _ _ h1 h2 => Int.le_antisymm h1 h2) h1 h2
theorem perm_of_mem {l l' : List Int} (h1 : l.Nodup) (h2 : l'.Nodup) (h : ∀ x, x ∈ l ↔ x ∈ l') : l.Perm l' := (List.perm_ext_iff_of_nodup h1 h2).2 h

set_option maxHeartbeats 1000000 in
theorem bytes10 (ao : Option Addr) (len cap : Nat) (ops : List POp) (w : World) (ha : ArgOps w ao ops) (hlen : Hid (ops.length = len)) :
    Calls Try.prog 10 #[.slice ao len cap] w fun e w' => w' = w ∧ (e = .returned (.bool true) ∨ e = .returned (.bool false)) := by
  by_cases hl : len ≤ 1048576
  · go_enter Try.func10, Try.ntmps10
    go_wp2
    go_loop [3, 4] (fun v3 v4 => ∃ (t k : Nat), t ≤ 1048576 ∧ k ≤ len ∧ v3 = .int .i64 t ∧ v4 = .int .i64 k) (fun _ v4 => len - (intOf v4).toNat)
    case atStart => exact ⟨len, 0, by omega, Nat.zero_le _, by go_num, rfl⟩
    case round =>
      obtain ⟨t, k, ht, hk, rfl, rfl⟩ := hrel
      by_cases hlt : k < len
      · have hkx : k < ops.length := by have := hlen.out; omega
        obtain ⟨b, o, rfl, hb, hc⟩ := ha.get hkx
        obtain ⟨-, -, g2⟩ := hc k hkx
        obtain ⟨s, hs⟩ : ∃ s, ops[k].item = s := ⟨_, rfl⟩
        rw [hs] at g2
        clear hs hc
        have i1 : (k : Int) < (len : Int) := by omega
        by_cases h1 : s.size ≤ 1048576
        · by_cases h2 : t + s.size ≤ 1048576
          · go_wp2
            go_round
            case rel => exact ⟨t + s.size, k + 1, by omega, by omega, by go_num, by go_num⟩
            case measure => simp [intOf]; omega
          · go_wp2
            go_ret
            exact ⟨rfl, Or.inr rfl⟩
        · go_wp2
          go_ret
          exact ⟨rfl, Or.inr rfl⟩
      · go_wp2
        go_ret
        exact ⟨rfl, Or.inl rfl⟩
  · go_enter Try.func10, Try.ntmps10
    go_wp2
    go_ret
    exact ⟨rfl, Or.inr rfl⟩

/-- The names and the flags in memory, each in a row of its own. -/
structure SeenAt (w2 wx : World) (B0 : Nat) (ks : List Int) (fl : List Bool) (sa aa : Option Addr) (sc ac : Nat) : Prop where
  own : OwnI wx B0 (.slice sa ks.length sc) ks
  fla : OwnB wx B0 (.slice aa fl.length ac) fl
  apart : ∀ b, (Value.slice sa ks.length sc).ownBlock = some b → (Value.slice aa fl.length ac).ownBlock ≠ some b
  bel : Below B0 w2 wx
  size : B0 ≤ wx.heap.size

theorem SeenAt.push {w2 wx w3 w4 : World} {B0 : Nat} {ks : List Int} {fl : List Bool} {sa aa : Option Addr} {sc ac g1 g2 c1 c2 : Nat} {t : Int} {v : Bool} {o1 o2 : Obj} (h : SeenAt w2 wx B0 ks fl sa aa sc ac)
    (hgrow3 : (wx.alloc o1).grownBy w3 (Value.slice sa ks.length sc).ownBlock) (hown3 : w3.ownsRow B0 3 1 (.slice (some ⟨g1, 0, none⟩) (ks.length + 1) c1) (ks.length + 1) (ints ks ++ [.int .i64 t])) (hat3 : (Value.slice sa ks.length sc).ownBlock = some g1 ∨ g1 = wx.heap.size + 1) (hlt3 : g1 < w3.heap.size)
    (hgrow4 : (w3.alloc o2).grownBy w4 (Value.slice aa fl.length ac).ownBlock) (hown4 : w4.ownsRow B0 4 1 (.slice (some ⟨g2, 0, none⟩) (fl.length + 1) c2) (fl.length + 1) (fl.map Value.bool ++ [.bool v])) (hat4 : (Value.slice aa fl.length ac).ownBlock = some g2 ∨ g2 = w3.heap.size + 1) :
    SeenAt w2 w4 B0 (ks ++ [t]) (fl ++ [v]) (some ⟨g1, 0, none⟩) (some ⟨g2, 0, none⟩) c1 c2 := by
  have ha : (wx.alloc o1).heap.size = wx.heap.size + 1 := by simp
  have ha3 : (w3.alloc o2).heap.size = w3.heap.size + 1 := by simp
  have hs3 := hgrow3.size
  rw [ha] at hs3
  have hne : (Value.slice aa fl.length ac).ownBlock ≠ some g1 := fun e => by
    rcases hat3 with h3 | h3
    · exact h.apart g1 h3 e
    · have := (h.fla.lt g1 e).2; omega
  have hB := (World.ownsRow.lt hown3 g1 rfl).1
  refine ⟨?_, OwnB.app hown4, fun b hb => ?_, ?_, ?_⟩
  · exact OwnI.grown (World.ownsRow.alloc (app_own hown3) o2) hgrow4 (Or.inr (Ne.symm (by simpa [Value.ownBlock] using hne)))
  · have : g1 = b := by simpa [Value.ownBlock] using hb
    subst this
    simp only [Value.ownBlock, ne_eq, Option.some.injEq]
    rcases hat4 with h4 | h4
    · exact fun e => hne (by rw [h4, e])
    · omega
  · have hsz := h.size
    exact (((h.bel.alloc hsz o1).grown hgrow3 (by rw [ha]; omega) (fun j hj => (h.own.lt j hj).1)).alloc (by omega) o2).grown hgrow4 (by rw [ha3]; omega) (fun j hj => (h.fla.lt j hj).1)
  · have := hgrow4.size; have := h.size; rw [ha3] at *; omega

theorem SeenAt.flag {w2 wx : World} {B0 : Nat} {ks : List Int} {fl : List Bool} {sa : Option Addr} {sc ac g j : Nat} (h : SeenAt w2 wx B0 ks fl sa (some ⟨g, 0, none⟩) sc ac) : SeenAt w2 (wx.setCell ⟨g, j, none⟩ (.bool true)) B0 ks (fl.set j true) sa (some ⟨g, 0, none⟩) sc ac := by
  have hB := (h.fla.lt g rfl).1
  refine ⟨h.own.grown (grown_set _ _ _) ?_, ?_, fun b hb => ?_, h.bel.setCell hB _, by have := h.size; simp; exact this⟩
  · cases e : (Value.slice sa ks.length sc).ownBlock with
    | none => exact Or.inl rfl
    | some b => exact Or.inr fun e' => h.apart b e (by simp at e'; subst e'; rfl)
  · have := h.fla.store rfl j true
    rwa [List.length_set]
  · have := h.apart b hb
    rw [List.length_set]; exact this

def nodesOf (ab : Int → Bool) (ks : List Int) : List Int := ks.filter fun x => !ab x
theorem nodes_succ {ab : Int → Bool} {ks : List Int} {k : Nat} (h : k < ks.length) : nodesOf ab (ks.take (k + 1)) = if ab ks[k] then nodesOf ab (ks.take k) else nodesOf ab (ks.take k) ++ [ks[k]] := by
  rw [List.take_succ_eq_append_getElem h, nodesOf, List.filter_append, nodesOf]
  cases e : ab ks[k] <;> simp [e]
theorem OwnB.below {w w' : World} {B : Nat} {v : Value} {l : List Bool} (h : OwnB w B v l) (hb : Below w.heap.size w w') : OwnB w' B v l := by
  refine ⟨h.1, ?_⟩
  rcases h.2 with hn | ⟨g, cap, cur, rfl, hbb, hgg, rest⟩
  · exact .inl hn
  · exact .inr ⟨g, cap, cur, rfl, hbb, (hb.block g (Array.getElem?_eq_some_iff.1 hgg).1).trans hgg, rest⟩
end Go.Proofs.Qxb6601382a
