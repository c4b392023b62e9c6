/- sb1InsertionSort (15). -/
import Derived.Test.Qxb6601382aSmall
import Derived.Laws.OwnMore
namespace Go.Proofs.Qxb6601382a
open Go.RowKit

def insC (p r : List Int) (j : Nat) (y : Int) : List Int := p.take j ++ y :: (p.drop j ++ r)
theorem insC_len {p r : List Int} {j : Nat} {y : Int} : (insC p r j y).length = p.length + 1 + r.length := by
  simp only [insC, List.length_append, List.length_cons, List.length_take, List.length_drop]; omega
theorem insC_get {p r : List Int} {j : Nat} {y : Int} (h0 : 0 < j) (hj : j ≤ p.length) : (insC p r j y)[j - 1]'(by rw [insC_len]; omega) = p[j - 1]'(by omega) := by
  have : j - 1 < (p.take j).length := by rw [List.length_take]; omega
  simp only [insC]
  rw [List.getElem_append_left this, List.getElem_take]
theorem insC_set {p r : List Int} {j : Nat} {y z : Int} (hj : j ≤ p.length) : (insC p r j y).set j z = insC p r j z := by
  have hl : (p.take j).length = j := by rw [List.length_take]; omega
  unfold insC
  rw [List.set_append_right _ _ (by omega), hl]
  simp
theorem insC_shift {p r : List Int} {j : Nat} (h0 : 0 < j) (hj : j ≤ p.length) : insC p r j (p[j - 1]'(by omega)) = insC p r (j - 1) (p[j - 1]'(by omega)) := by
  obtain ⟨k, rfl⟩ : ∃ k, j = k + 1 := ⟨j - 1, by omega⟩
  have hk : k < p.length := by omega
  have e1 : p.take (k + 1) = p.take k ++ [p[k]] := List.take_succ_eq_append_getElem hk
  have e2 : p.drop k = p[k] :: p.drop (k + 1) := List.drop_eq_getElem_cons hk
  simp only [insC, Nat.add_sub_cancel]
  rw [e1, e2]
  simp only [List.append_assoc, List.cons_append, List.nil_append]
theorem insC_top (p r : List Int) (x : Int) : insC p r p.length x = p ++ x :: r := by simp [insC]
theorem insC_perm (p r : List Int) (j : Nat) (x : Int) : (insC p r j x).Perm (p ++ x :: r) := by
  unfold insC
  have h1 : (p.take j ++ x :: (p.drop j ++ r)).Perm (x :: (p.take j ++ (p.drop j ++ r))) := List.perm_middle
  have h2 : (p ++ x :: r).Perm (x :: (p ++ r)) := List.perm_middle
  rw [← List.append_assoc, List.take_append_drop] at h1
  exact h1.trans h2.symm
theorem insC_sorted {p r : List Int} {j : Nat} {x : Int} (hj : j ≤ p.length) (hp : p.Pairwise (· ≤ ·)) (h1 : ∀ h : 0 < j, p[j - 1]'(by omega) ≤ x) (h2 : ∀ z ∈ p.drop j, x < z) : ((insC p r j x).take (p.length + 1)).Pairwise (· ≤ ·) := by
  have e : (insC p r j x).take (p.length + 1) = p.take j ++ x :: p.drop j := by
    have hl : (p.take j ++ x :: p.drop j).length = p.length + 1 := by simp only [List.length_append, List.length_cons, List.length_take, List.length_drop]; omega
    have : insC p r j x = (p.take j ++ x :: p.drop j) ++ r := by simp [insC]
    rw [this, ← hl, List.take_left]
  rw [e, List.pairwise_append]
  have hle : ∀ a ∈ p.take j, a ≤ x := fun a ha => by
    by_cases h0 : 0 < j
    · obtain ⟨i, hi, rfl⟩ := List.getElem_of_mem ha
      rw [List.length_take] at hi
      rw [List.getElem_take]
      by_cases e : i = j - 1
      · subst e; exact h1 h0
      · exact Int.le_trans (List.pairwise_iff_getElem.1 hp i (j - 1) (by omega) (by omega) (by omega)) (h1 h0)
    · have : j = 0 := by omega
      subst this; simp at ha
  refine ⟨hp.sublist (List.take_sublist _ _), List.pairwise_cons.2 ⟨fun z hz => Int.le_of_lt (h2 z hz), hp.sublist (List.drop_sublist _ _)⟩, fun a ha b hb => ?_⟩
  rcases List.mem_cons.1 hb with rfl | hb
  · exact hle a ha
  · exact Int.le_trans (hle a ha) (Int.le_of_lt (h2 b hb))

theorem OwnI.store {w : World} {B g n c : Nat} {l : List Int} (h : OwnI w B (.slice (some ⟨g, 0, none⟩) n c) l) (hn : l.length = n) (j : Nat) (x : Int) : OwnI (w.setCell ⟨g, j, none⟩ (.int .i64 x)) B (.slice (some ⟨g, 0, none⟩) n c) (l.set j x) := by
  subst hn
  have := World.ownsRow.stored h j (.int .i64 x)
  unfold OwnI ints at this ⊢
  rw [List.length_set, List.map_set]
  exact this.1

set_option maxHeartbeats 2000000 in
theorem insSort (a : Option Addr) (n c B : Nat) (l : List Int) (w : World) (h : OwnI w B (.slice a n c) l) (hn : Hid (l.length = n)) (hl : n ≤ 65536) :
    Calls Try.prog 15 #[.slice a n c] w fun e w' => e = .returned (.tuple #[]) ∧ w.grownBy w' (Value.slice a n c).ownBlock ∧ ∃ l' : List Int, l'.Perm l ∧ l'.Pairwise (· ≤ ·) ∧ OwnI w' B (.slice a n c) l' := by
  go_enter Try.func15, Try.ntmps15
  go_wp2
  go_loopw [2] (fun v wx => ∃ (i : Nat) (l' : List Int), 1 ≤ i ∧ i ≤ n + 1 ∧ v = .int .i64 i ∧ w.grownBy wx (Value.slice a n c).ownBlock ∧ OwnI wx B (.slice a n c) l' ∧ Hid (l'.Perm l ∧ (l'.take i).Pairwise (· ≤ ·))) (fun v _ => n + 1 - (intOf v).toNat)
  case atStart =>
    refine ⟨1, l, Nat.le_refl _, by omega, rfl, World.grownBy.refl _ _, h, List.Perm.refl _, ?_⟩
    cases l with
    | nil => simp
    | cons x l => simp
  case round =>
    obtain ⟨i, l', hi1, hi2, rfl, hgw, hown, HL⟩ := hrel
    by_cases hlt : i < n
    · have hll : l'.length = n := by rw [HL.out.1.length_eq]; exact hn.out
      have hix : i < l'.length := by omega
      obtain ⟨g, rfl, hcell⟩ := hown.get hix
      obtain ⟨x, hx⟩ : ∃ x, l'[i] = x := ⟨_, rfl⟩
      rw [hx] at hcell
      have hsplit : l' = l'.take i ++ x :: l'.drop (i + 1) := by
        rw [← hx, ← List.drop_eq_getElem_cons hix, List.take_append_drop]
      obtain ⟨p, hp⟩ : ∃ p, l'.take i = p := ⟨_, rfl⟩
      obtain ⟨r, hr⟩ : ∃ r, l'.drop (i + 1) = r := ⟨_, rfl⟩
      rw [hp, hr] at hsplit
      have hpl : p.length = i := by rw [← hp, List.length_take]; omega
      have hps : p.Pairwise (· ≤ ·) := by rw [← hp]; exact HL.out.2
      have hpm : (p ++ x :: r).Perm l := by rw [← hsplit]; exact HL.out.1
      have hrl : p.length + 1 + r.length = n := by rw [← hll, hsplit]; simp; omega
      have hown0 : OwnI wr B (.slice (some ⟨g, 0, none⟩) n c) (insC p r i x) := by rw [← hpl, insC_top, ← hsplit]; exact hown
      have HPS : Hid (p.Pairwise (· ≤ ·)) := hps
      have HPM : Hid ((p ++ x :: r).Perm l) := hpm
      have HPL : Hid (p.length = i) := hpl
      have HRL : Hid (p.length + 1 + r.length = n) := hrl
      have i1 : (i : Int) < (n : Int) := by omega
      clear hsplit hp hr hx hps hpm hown HL hll hix hpl hrl
      go_wp2
      clear hcell
      rename_i wrx
      go_loopw [4] (fun v wx => ∃ (j : Nat) (y : Int), j ≤ i ∧ v = .int .i64 j ∧ w.grownBy wx (some g) ∧ OwnI wx B (.slice (some ⟨g, 0, none⟩) n c) (insC p r j y) ∧ Hid (∀ z ∈ p.drop j, x < z)) (fun v _ => (intOf v).toNat)
      case atStart => exact ⟨i, x, Nat.le_refl _, rfl, hgw, hown0, fun z hz => by rw [List.drop_of_length_le (by have := HPL.out; omega)] at hz; cases hz⟩
      case round =>
        obtain ⟨j, y, hj, rfl, hgx, hox, HD⟩ := hrel
        have hjp : j ≤ p.length := by have := HPL.out; omega
        have hcl : (insC p r j y).length = n := by rw [insC_len]; exact HRL.out
        have hcj : j < (insC p r j y).length := by omega
        obtain ⟨g', hg', hcj1⟩ := hox.get hcj
        cases hg'
        have hfz := fun k => World.ownsRow.frozenAt (by have := hox; unfold OwnI at this; rw [hcl] at this; exact this) k
        by_cases h0 : j = 0
        · subst h0
          have hfin := hox.store hcl 0 x
          rw [insC_set (Nat.zero_le _)] at hfin
          have hso := insC_sorted (r := r) (x := x) (Nat.zero_le _) HPS.out (fun h => absurd h (by omega)) HD.out
          rw [HPL.out] at hso
          have HF : Hid ((insC p r 0 x).Perm l ∧ ((insC p r 0 x).take (i + 1)).Pairwise (· ≤ ·)) := ⟨(insC_perm p r 0 x).trans HPM.out, hso⟩
          have hgz := (hgx.trans (grown_set wr ⟨g, 0, none⟩ (.int .i64 x)))
          generalize (insC p r 0 y)[0] = y0 at hcj1
          have i2 : (0 : Int) < (n : Int) := by omega
          clear hcl hcj hox hso
          go_wp2
          go_roundw
          case rel => exact ⟨i + 1, insC p r 0 x, by omega, by omega, by go_num, hgz, hfin, HF.out⟩
          case measure => simp [intOf]; omega
        · have hj1 : j - 1 < (insC p r j y).length := by omega
          obtain ⟨g', hg', hcz⟩ := hox.get hj1
          cases hg'
          rw [insC_get (by omega) hjp] at hcz
          obtain ⟨z, hz⟩ : ∃ z, p[j - 1]'(by omega) = z := ⟨_, rfl⟩
          rw [hz] at hcz
          have i2 : (0 : Int) ≤ (j : Int) - 1 := by omega
          have i3 : ((j : Int) - 1).toNat = j - 1 := by omega
          have i4 : (j : Int) - 1 < (n : Int) := by omega
          have i5 : (j : Int) < (n : Int) := by omega
          have i6 : ((j - 1 : Nat) : Int) = (j : Int) - 1 := by omega
          have d0 : decide ((0 : Int) < (j : Int)) = true := decide_eq_true (by omega)
          have d1 : decide (0 < j) = true := decide_eq_true (by omega)
          by_cases hzx : x < z
          · have hfin := hox.store hcl j z
            rw [insC_set hjp, ← hz, insC_shift (by omega) hjp, hz] at hfin
            have HD2 : Hid (∀ z' ∈ p.drop (j - 1), x < z') := fun z' hz' => by
              have e2 : p.drop (j - 1) = p[j - 1]'(by omega) :: p.drop (j - 1 + 1) := List.drop_eq_getElem_cons (by omega)
              rw [e2, hz, show j - 1 + 1 = j by omega] at hz'
              rcases List.mem_cons.1 hz' with rfl | hz'
              · exact hzx
              · exact HD.out z' hz'
            have hgz := (hgx.trans (grown_set wr ⟨g, j, none⟩ (.int .i64 z)))
            generalize (insC p r j y)[j] = y0 at hcj1
            clear hcl hcj hox hz hj1
            go_wp2
            go_roundw
            case rel => exact ⟨j - 1, z, by omega, by rw [i6], hgz, hfin, HD2.out⟩
            case measure => simp [intOf]; omega
          · have hfin := hox.store hcl j x
            rw [insC_set hjp] at hfin
            have hso := insC_sorted (r := r) (x := x) hjp HPS.out (fun _ => by rw [hz]; omega) HD.out
            rw [HPL.out] at hso
            have HF : Hid ((insC p r j x).Perm l ∧ ((insC p r j x).take (i + 1)).Pairwise (· ≤ ·)) := ⟨(insC_perm p r j x).trans HPM.out, hso⟩
            have hgz := (hgx.trans (grown_set wr ⟨g, j, none⟩ (.int .i64 x)))
            have d2 : decide (x < z) = false := decide_eq_false hzx
            generalize (insC p r j y)[j] = y0 at hcj1
            clear hcl hcj hox hz hj1 hso
            go_wp2
            go_roundw
            case rel => exact ⟨i + 1, insC p r j x, by omega, by omega, by go_num, hgz, hfin, HF.out⟩
            case measure => simp [intOf]; omega
    · have hll : l'.length = n := by rw [HL.out.1.length_eq]; exact hn.out
      have HF : Hid (l'.Pairwise (· ≤ ·)) := by
        have := HL.out.2
        rwa [List.take_of_length_le (by omega)] at this
      clear hll
      go_wp2
      refine bodyPost_end (v := .tuple #[]) (by simp [results, Try.results15, go_sem]) rfl ⟨rfl, hgw, l', HL.out.1, HF.out, hown⟩
end Go.Proofs.Qxb6601382a
