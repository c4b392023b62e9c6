/- sb1Closure (19): a search from every node. -/
import Derived.Test.Qxb6601382aMats
import Derived.Test.Qxb6601382aConf
import Derived.OwnWalk
import Derived.Deep.DeepCutAuto
namespace Go.Proofs.Qxb6601382a
open Go.RowKit

def Adj (n : Nat) (M : Nat → Nat → Bool) (a b : Nat) : Prop := a < n ∧ b < n ∧ M a b = true

/-- The queue of the search from s: no node twice, all reached; those ahead of 'hd' have all their heads in it. -/
structure Que (n : Nat) (M : Nat → Nat → Bool) (s : Nat) (q : List Nat) (hd : Nat) : Prop where
  nodup : q.Nodup
  lt : ∀ x ∈ q, x < n
  mem : s ∈ q
  reach : ∀ x ∈ q, RT (Adj n M) s x
  le : hd ≤ q.length
  shut : ∀ i (h : i < q.length), i < hd → ∀ y, Adj n M q[i] y → y ∈ q
/-- Of the node at hand the heads below k are in. -/
def Part (n : Nat) (M : Nat → Nat → Bool) (q : List Nat) (u k : Nat) : Prop := ∀ y, y < k → Adj n M u y → y ∈ q

theorem nodup_le {q : List Nat} {n : Nat} (h : q.Nodup) (hl : ∀ x ∈ q, x < n) : q.length ≤ n := by
  have : q.Nodup ∧ ∀ x ∈ q, x ∈ List.range n := ⟨h, fun x hx => by simpa using hl x hx⟩
  have h2 : q.length ≤ (List.range n).length := List.Nodup.length_le_of_subset this.1 this.2
  simpa using h2

theorem Que.push {n : Nat} {M : Nat → Nat → Bool} {s : Nat} {q : List Nat} {hd u k : Nat} (h : Que n M s q hd) (hu : u ∈ q) (hP : Part n M q u k) (ha : Adj n M u k) (hn : k ∉ q) : Que n M s (q ++ [k]) hd ∧ Part n M (q ++ [k]) u (k + 1) := by
  refine ⟨⟨?_, fun x hx => ?_, List.mem_append_left _ h.mem, fun x hx => ?_, by have := h.le; simp; omega, fun i hi hlt y hy => ?_⟩, fun y hy hay => ?_⟩
  · rw [List.nodup_append]; exact ⟨h.nodup, by simp, fun a ha' b hb => by simp at hb; subst hb; exact fun e => hn (e ▸ ha')⟩
  · rcases List.mem_append.1 hx with hx | hx
    · exact h.lt x hx
    · simp at hx; subst hx; exact ha.2.1
  · rcases List.mem_append.1 hx with hx | hx
    · exact h.reach x hx
    · simp at hx; subst hx; exact .tail (h.reach u hu) ha
  · have e : i < q.length := by have := h.le; omega
    rw [List.getElem_append_left e] at hy
    exact List.mem_append_left _ (h.shut i e hlt y hy)
  · by_cases e : y = k
    · subst e; simp
    · exact List.mem_append_left _ (hP y (by omega) hay)
theorem Part.skip {n : Nat} {M : Nat → Nat → Bool} {q : List Nat} {u k : Nat} (hP : Part n M q u k) (h : Adj n M u k → k ∈ q) : Part n M q u (k + 1) := fun y hy ha => by
  by_cases e : y = k
  · subst e; exact h ha
  · exact hP y (by omega) ha
theorem Que.next {n : Nat} {M : Nat → Nat → Bool} {s : Nat} {q : List Nat} {hd : Nat} (h : Que n M s q hd) (hl : hd < q.length) (hP : Part n M q q[hd] n) : Que n M s q (hd + 1) :=
  ⟨h.nodup, h.lt, h.mem, h.reach, hl, fun i hi hlt y hy => by
    by_cases e : i = hd
    · subst e; exact hP y hy.2.1 hy
    · exact h.shut i hi (by omega) y hy⟩
theorem Que.done {n : Nat} {M : Nat → Nat → Bool} {s : Nat} {q : List Nat} (h : Que n M s q q.length) (v : Nat) : v ∈ q ↔ RT (Adj n M) s v := by
  refine ⟨h.reach v, fun k => k.ind (P := fun x => x ∈ q) h.mem fun b c hb e => ?_⟩
  obtain ⟨i, hi, rfl⟩ := List.getElem_of_mem hb
  exact h.shut i hi hi _ e
theorem que0 {n : Nat} (M : Nat → Nat → Bool) {s : Nat} (hs : s < n) : Que n M s [s] 0 :=
  ⟨by simp, fun x hx => by simp at hx; omega, by simp, fun x hx => by simp at hx; subst hx; exact .refl _, by simp, fun i hi hlt => by omega⟩

/-- The search from s under way. -/
structure Srch (w wx : World) (R n : Nat) (M C : Nat → Nat → Bool) (s : Nat) (q : List Nat) (hd : Nat) (qa : Option Addr) (qc : Nat) : Prop where
  own : OwnI wx (R + n + 1) (.slice qa q.length qc) (q.map Int.ofNat)
  mat : ∃ C', Mat wx R n C' ∧ (∀ v, v < n → C' s v = decide (v ∈ q)) ∧ ∀ s', s' ≠ s → ∀ v, C' s' v = C s' v
  que : Que n M s q hd
  bel : Below R w wx
  size : R + n + 1 ≤ wx.heap.size

theorem Srch.push {w wx W w1 : World} {R n : Nat} {M C : Nat → Nat → Bool} {s : Nat} {q : List Nat} {hd : Nat} {qa : Option Addr} {qc k u gg cp : Nat} (h : Srch w wx R n M C s q hd qa qc) (hs : s < n) (hW : wx.setCell ⟨R + 1 + s, k, none⟩ (.bool true) = W) (hu : u ∈ q) (hP : Part n M q u k) (ha : Adj n M u k) (hn : k ∉ q) (o : Obj)
    (hgrow : (W.alloc o).grownBy w1 (Value.slice qa q.length qc).ownBlock) (hown : w1.ownsRow (R + n + 1) 3 1 (.slice (some ⟨gg, 0, none⟩) (q.length + 1) cp) (q.length + 1) (ints (q.map Int.ofNat) ++ [.int .i64 (k : Int)])) :
    Srch w w1 R n M C s (q ++ [k]) hd (some ⟨gg, 0, none⟩) cp ∧ Part n M (q ++ [k]) u (k + 1) := by
  obtain ⟨C', m1, m2, m3⟩ := h.mat
  obtain ⟨g1, g2⟩ := h.que.push hu hP ha hn
  subst hW
  have hsz : (wx.setCell ⟨R + 1 + s, k, none⟩ (.bool true)).heap.size = wx.heap.size := by simp
  have hz2 : ((wx.setCell ⟨R + 1 + s, k, none⟩ (.bool true)).alloc o).heap.size = wx.heap.size + 1 := by simp
  have hlow : ∀ b, b ≤ R + n → some b ≠ (Value.slice qa q.length qc).ownBlock := fun b hb => h.own.ne (by omega)
  have hsi := h.size
  refine ⟨⟨?_, ⟨updM C' s k, ?_, fun v hv => ?_, fun s' hs' v => ?_⟩, g1, ?_, by have := hgrow.size; rw [hz2] at this; omega⟩, g2⟩
  · have : OwnI w1 (R + n + 1) (.slice (some ⟨gg, 0, none⟩) (q.map Int.ofNat ++ [(k : Int)]).length cp) (q.map Int.ofNat ++ [(k : Int)]) := app_own (by simpa using hown)
    simpa using this
  · refine m1.set.of_block fun b h1 h2 => ?_
    exact (hgrow.block b (by rw [hz2]; omega) (hlow b h2)).trans (Below.heap_alloc _ _ b (by rw [hsz]; omega))
  · unfold updM
    by_cases e : v = k
    · subst e; simp
    · simp [e, m2 v hv]
  · simp [updM, hs', m3 s' hs' v]
  · exact ((h.bel.setCell (by show R ≤ R + 1 + s; omega) _).alloc (by rw [hsz]; omega) _).grown hgrow (by rw [hz2]; omega) (fun j hj => by have := (h.own.lt j hj).1; omega)

set_option maxRecDepth 100000 in
set_option maxHeartbeats 4000000 in
theorem closure_walk (A n : Nat) (M : Nat → Nat → Bool) (w : World) (hn : n ≤ 65536) (hA : Mat w A n M) (R : Nat) (hR : w.heap.size = R) :
    Calls Try.prog 19 #[.slice (some ⟨A, 0, none⟩) n n] w fun e w' => e = .returned (.slice (some ⟨R, 0, none⟩) n n) ∧ Below R w w' ∧ ∃ C, Mat w' R n C ∧ ∀ s v, s < n → v < n → (C s v = true ↔ RT (Adj n M) s v) := by
  have hnew := newMat n w hn R hR
  have hAR : A + n < R := by have := hA.lt; omega
  obtain ⟨i0, hi0, hz0, hz1, hz2⟩ := info_parts info3
  go_enter Try.func19, Try.ntmps19
  go_wp2_with fail
  refine hnew.mono ?_
  rintro e w1 ⟨rfl, hb1, hM1⟩
  clear hnew
  go_wp2
  go_loopw [5] (fun v wx => ∃ (s : Nat) (C : Nat → Nat → Bool), s ≤ n ∧ v = .int .i64 s ∧ Below R w wx ∧ Mat wx R n C ∧ (∀ s' v, s' < s → v < n → (C s' v = true ↔ RT (Adj n M) s' v)) ∧ ∀ s' v, s ≤ s' → C s' v = false) (fun v _ => n - (intOf v).toNat)
  case atStart => exact ⟨0, _, Nat.zero_le _, rfl, hb1, hM1, fun s' v h => by omega, fun _ _ _ => rfl⟩
  case round =>
    obtain ⟨s, C, hs, rfl, hbel, hM, hdone, hrest⟩ := hrel
    by_cases hlt : s < n
    · have i1 : (s : Int) < (n : Int) := by omega
      have hsz := hM.lt
      clear hM1 hb1
      go_upto_region 7 with (first
        | (at_make; refine wpList_make_own _ rfl _ _ 24 rfl (R + n + 1) 3 i0 (.int .i64 0) 1 Try.underlying24 hi0 hz0 hz1 _ _ _ n rfl rfl rfl (by rw [hz2]; omega) (by unfold maxLen; omega) (by omega) ?_; intro w2 hrow2 hg2)
        | go_in)
      have hM2 := hM.of_block fun b h1 h2 => hg2.block b (by omega) (by simp)
      have hb2 := hbel.grown hg2 (by omega) (fun j hj => by cases hj)
      have hgz := hg2.size
      have r0 := hM2.1.cell (i := s) hlt
      have r1 := (hM2.2 s hlt).cell (i := s) hlt
      have f1 := (hM2.2 s hlt).frozen s
      have hqlt : ∀ b, b ≤ R + n → ¬ b = wr.heap.size := fun b hb => by omega
      obtain ⟨qb, hqb⟩ : ∃ qb, wr.heap.size = qb := ⟨_, rfl⟩
      rw [hqb] at hrow2 hqlt ⊢
      clear hqb hg2
      go_upto_region 8 with go_in
      obtain ⟨W, hW⟩ : ∃ W, w2.setCell ⟨R + 1 + s, s, none⟩ (.bool true) = W := ⟨_, rfl⟩
      have hWz : R + n + 1 ≤ W.heap.size := by rw [← hW]; simp; omega
      have hWown : W.ownsRow (R + n + 1) 3 1 (.slice (some ⟨qb, 0, none⟩) 0 n) 0 [] := by
        rw [← hW]
        exact World.ownsRow.kept hrow2 (grown_set _ _ _) (Or.inr (by simp [Value.ownBlock]; have := hqlt (R + 1 + s) (by omega); omega))
      have hWM : Mat W R n (updM C s s) := by rw [← hW]; exact hM2.set
      have hWb : Below R w W := by rw [← hW]; exact hb2.setCell (by show R ≤ R + 1 + s; omega) _
      rw [hW]
      clear hW r0 r1 f1 hM2 hb2
      go_wp2_with (first
        | (at_builtin; refine wpList_append_lies _ rfl _ _ 24 rfl (R + n + 1) 3 i0 (.int .i64 0) 1 8 Try.underlying24 hi0 hz0 hz1 hz2 rfl (by decide) (.slice (some ⟨qb, 0, none⟩) 0 n) 0 [] rfl (hWown.alloc _) ⟨W.heap.size, 0, none⟩ 1 1 [.int .i64 (s : Int)] rfl rfl (cell_one_new _ _ _) (by simp [Value.oneCell']) (by decide) (by unfold maxLen; omega) (by omega) (by simp; omega) (W.heap.size + 1) (by simp) ?_
           intro gg cp w3 hown3 hgrow3 hat3 hlt3)
        | go_in)
      have hS : Srch w w3 R n M C s [s] 0 (some ⟨gg, 0, none⟩) cp := by
        have hlow : ∀ b, b ≤ R + n → some b ≠ (Value.slice (some ⟨qb, 0, none⟩) 0 n).ownBlock := fun b hb e => hqlt b hb (by simpa [Value.ownBlock] using e)
        have hgz3 := hgrow3.size
        have haz : (W.alloc (.cells #[.int .i64 (s : Int)] 3)).heap.size = W.heap.size + 1 := by simp
        refine ⟨hown3, ⟨updM C s s, hWM.of_block fun b h1 h2 => (hgrow3.block b (by rw [haz]; omega) (hlow b h2)).trans (Below.heap_alloc _ _ b (by omega)), fun v hv => ?_, fun s' hs' v => by simp [updM, hs']⟩, que0 M hlt, ?_, by omega⟩
        · unfold updM
          by_cases e : v = s
          · simp [e]
          · simp [e, hrest s v (Nat.le_refl _)]
        · exact (hWb.alloc (by omega) _).grown hgrow3 (by rw [haz]; omega) (fun j hj => by
            have : j = qb := by simpa [Value.ownBlock] using hj.symm
            rcases Nat.lt_or_ge R j with h | h
            · omega
            · exact absurd this (hqlt j (by omega)))
      clear hown3 hgrow3 hat3 hlt3 hWown hWM hWb hWz hrow2 hM hbel hsz hgz hqlt
      rename_i wrx
      go_loopw [6, 7] (fun v6 v7 wx => ∃ (q : List Nat) (hd : Nat) (qa : Option Addr) (qc : Nat), v6 = .slice qa q.length qc ∧ v7 = .int .i64 hd ∧ Srch w wx R n M C s q hd qa qc) (fun _ v7 _ => n - (intOf v7).toNat)
      case atStart => exact ⟨[s], 0, _, _, rfl, rfl, hS⟩
      case round =>
        obtain ⟨q, hd, qa, qc, rfl, rfl, hS⟩ := hrel
        have hql := nodup_le hS.que.nodup hS.que.lt
        have hdl := hS.que.le
        by_cases hlt2 : hd < q.length
        · obtain ⟨g, rfl, hcell⟩ := hS.own.get (k := hd) (by simpa using hlt2)
          rw [List.getElem_map] at hcell
          obtain ⟨u, hu⟩ : ∃ u, q[hd] = u := ⟨_, rfl⟩
          rw [hu] at hcell
          have hcell : wr.cell? ⟨g, hd, none⟩ = some (.int .i64 (u : Int)) := hcell
          have huq : u ∈ q := by rw [← hu]; exact List.getElem_mem hlt2
          have hun := hS.que.lt u huq
          have i2 : (hd : Int) < (q.length : Int) := by omega
          go_wp2
          have hS0 := hS
          clear hcell hql hdl
          rename_i wry
          go_loopw [6, 9] (fun v6 v9 wx => ∃ (q' : List Nat) (k : Nat) (qa : Option Addr) (qc' : Nat), k ≤ n ∧ v6 = .slice qa q'.length qc' ∧ v9 = .int .i64 k ∧ Srch w wx R n M C s q' hd qa qc' ∧ Part n M q' u k ∧ ∃ h : hd < q'.length, q'[hd] = u) (fun _ v9 _ => n - (intOf v9).toNat)
          case atStart => exact ⟨q, 0, _, _, Nat.zero_le _, rfl, rfl, hS0, fun y hy => by omega, hlt2, hu⟩
          case round =>
            obtain ⟨q', k, qa, qc', hk, rfl, rfl, hS', hP, hl', hu'⟩ := hrel
            have huq' : u ∈ q' := by rw [← hu']; exact List.getElem_mem hl'
            have hql := nodup_le hS'.que.nodup hS'.que.lt
            by_cases hlt3 : k < n
            · have i3 : (k : Int) < (n : Int) := by omega
              have i4 : (u : Int) < (n : Int) := by omega
              have hA' := hA.below hS'.bel hAR
              have a0 := hA'.1.cell (i := u) hun
              have a1 := (hA'.2 u hun).cell (i := k) hlt3
              obtain ⟨C', m1, m2, m3⟩ := hS'.mat
              have r0 := m1.1.cell (i := s) hlt
              have r1 := (m1.2 s hlt).cell (i := k) hlt3
              have f1 := (m1.2 s hlt).frozen k
              rw [m2 k hlt3] at r1
              have hsk : (Adj n M u k → k ∈ q') → Part n M q' u (k + 1) := hP.skip
              have hadj : M u k = true → Adj n M u k := fun h => ⟨hun, hlt3, h⟩
              have hnadj : Adj n M u k → M u k = true := fun h => h.2.2
              clear hA' m1 m2 m3 hS
              cases hm : M u k with
              | false =>
                rw [hm] at a1
                have hP2 := hsk fun h => by have := hnadj h; rw [hm] at this; cases this
                have HP2 : Hid (Part n M q' u (k + 1)) := hP2
                clear hP2 hsk hadj hnadj
                go_wp2
                go_roundw
                case rel => exact ⟨q', k + 1, _, _, by omega, rfl, by go_num, hS', HP2.out, hl', hu'⟩
                case measure => simp [intOf]; omega
              | true =>
                rw [hm] at a1
                have ha := hadj hm
                have HA : Hid (Adj n M u k) := ha
                by_cases hin : k ∈ q'
                · have hP2 := hsk fun _ => hin
                  have HP2 : Hid (Part n M q' u (k + 1)) := hP2
                  rw [decide_eq_true hin] at r1
                  clear hP2 hsk hadj hnadj ha hin
                  go_wp2
                  go_roundw
                  case rel => exact ⟨q', k + 1, _, _, by omega, rfl, by go_num, hS', HP2.out, hl', hu'⟩
                  case measure => simp [intOf]; omega
                · have HIN : Hid (k ∉ q') := hin
                  rw [decide_eq_false hin] at r1
                  clear hsk hadj hnadj ha hin
                  go_upto_region 18 with go_in
                  obtain ⟨W2, hW2⟩ : ∃ W2, wr.setCell ⟨R + 1 + s, k, none⟩ (.bool true) = W2 := ⟨_, rfl⟩
                  have HW2 : Hid (wr.setCell ⟨R + 1 + s, k, none⟩ (.bool true) = W2) := hW2
                  have hsz3 := hS'.size
                  have hWz2 : R + n + 1 ≤ W2.heap.size := by rw [← hW2]; simp; omega
                  have hWown2 : W2.ownsRow (R + n + 1) 3 1 (.slice qa q'.length qc') q'.length (ints (q'.map Int.ofNat)) := by
                    have h0 : wr.ownsRow (R + n + 1) 3 1 (.slice qa q'.length qc') q'.length (ints (q'.map Int.ofNat)) := by simpa [OwnI] using hS'.own
                    rw [← hW2]
                    exact World.ownsRow.kept h0 (grown_set _ _ _) (Or.inr (Ne.symm (hS'.own.ne (by show R + 1 + s < R + n + 1; omega))))
                  rw [hW2]
                  clear hW2 r0 r1 f1 a0 a1
                  go_wp2_with (first
                    | (at_builtin; refine wpList_append_lies _ rfl _ _ 24 rfl (R + n + 1) 3 i0 (.int .i64 0) 1 8 Try.underlying24 hi0 hz0 hz1 hz2 rfl (by decide) (.slice qa q'.length qc') q'.length (ints (q'.map Int.ofNat)) rfl (hWown2.alloc _) ⟨W2.heap.size, 0, none⟩ 1 1 [.int .i64 (k : Int)] rfl rfl (cell_one_new _ _ _) (by simp [Value.oneCell']) (by decide) (by unfold maxLen; omega) (by omega) (by simp; omega) (W2.heap.size + 1) (by simp) ?_
                       intro gg2 cp2 w4 hown4 hgrow4 hat4 hlt4)
                    | go_in)
                  obtain ⟨hS4, hP4⟩ := hS'.push hlt HW2.out huq' hP HA.out HIN.out _ hgrow4 hown4
                  exact ⟨⟨q' ++ [k], k + 1, some ⟨gg2, 0, none⟩, cp2, by omega, by simp, by go_num, hS4, hP4, by simp; omega, by rw [List.getElem_append_left hl']; exact hu'⟩, by simp [intOf]; omega⟩
            · obtain rfl : k = n := by omega
              have hq2 := hS'.que.next hl' (by rw [hu']; exact hP)
              have hS2 : Srch w wr R k M C s q' (hd + 1) qa qc' := ⟨hS'.own, hS'.mat, hq2, hS'.bel, hS'.size⟩
              clear hS hS' hP hq2
              go_wp2
              go_roundw
              case rel => exact ⟨q', hd + 1, _, _, rfl, by go_num, hS2⟩
              case measure => simp [intOf]; omega
        · obtain rfl : hd = q.length := by omega
          obtain ⟨C', m1, m2, m3⟩ := hS.mat
          have hdn := hS.que.done
          have hbl := hS.bel
          go_wp2
          go_roundw
          case rel =>
            refine ⟨s + 1, C', by omega, by go_num, hbl, m1, fun s' v h1 h2 => ?_, fun s' v h1 => by rw [m3 s' (by omega)]; exact hrest s' v (by omega)⟩
            by_cases e : s' = s
            · subst e; rw [m2 v h2, ← hdn v]; simp
            · rw [m3 s' e]; exact hdone s' v (by omega) h2
          case measure => simp [intOf]; omega
    · obtain rfl : s = n := by omega
      go_wp2
      go_ret
      exact ⟨rfl, hbel, C, hM, fun s' v h1 h2 => hdone s' v h1 h2⟩
end Go.Proofs.Qxb6601382a
