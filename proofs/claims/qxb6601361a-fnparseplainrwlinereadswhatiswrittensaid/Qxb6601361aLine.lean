/- parsePlainRWLine (27) on a line in the plain form. -/
import Derived.Test.Qxb6601361aParse
namespace Go.Proofs.Qxb6601361a
open Go.RowKit

/-- A line in the plain form lies in block g: its kind's letter, '(', four fields D f from offset P f on, ',' between them, ')' at the end. -/
structure Line (w : World) (g n : Nat) (k0 : Int) (D : Nat → List Int) (P : Nat → Nat) : Prop where
  p0 : P 0 = 2
  ps : ∀ f, f < 4 → P (f + 1) = P f + (D f).length + 1
  pn : P 4 = n
  c0 : w.cell? ⟨g, 0, none⟩ = some (.int .u8 k0)
  c1 : w.cell? ⟨g, 1, none⟩ = some (.int .u8 40)
  seg : ∀ f, f < 4 → At w g (P f) (D f)
  com : ∀ f, f < 3 → w.cell? ⟨g, P f + (D f).length, none⟩ = some (.int .u8 44)
  last : w.cell? ⟨g, P 3 + (D 3).length, none⟩ = some (.int .u8 41)
  byte : ∀ j, j < n → ∃ v, w.cell? ⟨g, j, none⟩ = some (.int .u8 v)

theorem Line.below {w w' : World} {B g n : Nat} {k0 : Int} {D : Nat → List Int} {P : Nat → Nat} (h : Line w g n k0 D P) (hb : Below B w w') (hg : g < B) : Line w' g n k0 D P := by
  have hc : ∀ o, w'.cell? ⟨g, o, none⟩ = w.cell? ⟨g, o, none⟩ := fun o => hb.cell (by exact hg)
  exact ⟨h.p0, h.ps, h.pn, by rw [hc]; exact h.c0, by rw [hc]; exact h.c1, fun f hf i hi => by rw [hc]; exact h.seg f hf i hi, fun f hf => by rw [hc]; exact h.com f hf, by rw [hc]; exact h.last, fun j hj => by rw [hc]; exact h.byte j hj⟩

/-- What has been read of the four fields. -/
def fld (V : Nat → Int) (f j : Nat) : Value := .int .i64 (if j < f then V j else 0)

theorem fld_step (V : Nat → Int) (f j : Nat) : fld V (f + 1) j = if j = f then .int .i64 (V f) else fld V f j := by
  unfold fld
  by_cases e : j = f
  · subst e; simp
  · rw [if_neg e]
    by_cases h : j < f
    · rw [if_pos (by omega), if_pos h]
    · rw [if_neg (by omega), if_neg h]

theorem row_step {w : World} {F f : Nat} {V : Nat → Int} (h : w.rowIs F 35 4 (fld V f)) : (w.setCell ⟨F, f, none⟩ (.int .i64 (V f))).rowIs F 35 4 (fld V (f + 1)) :=
  (h.set f _).congr fun j _ => (fld_step V f j).symm

theorem rewritten {wr : World} {F : Nat} {V : Nat → Int} (h : wr.rowIs F 35 4 (fld V 4)) :
    (((((wr.setCell ⟨F, 0, none⟩ (.int .i64 (V 0))).setCell ⟨F, 1, none⟩ (.int .i64 (V 1))).setCell ⟨F, 2, none⟩ (.int .i64 (V 2))).setCell ⟨F, 3, none⟩ (.int .i64 (V 3))).drew).cell? ⟨F, 0, none⟩ = some (.int .i64 (V 0)) ∧
    (((((wr.setCell ⟨F, 0, none⟩ (.int .i64 (V 0))).setCell ⟨F, 1, none⟩ (.int .i64 (V 1))).setCell ⟨F, 2, none⟩ (.int .i64 (V 2))).setCell ⟨F, 3, none⟩ (.int .i64 (V 3))).drew).cell? ⟨F, 1, none⟩ = some (.int .i64 (V 1)) ∧
    (((((wr.setCell ⟨F, 0, none⟩ (.int .i64 (V 0))).setCell ⟨F, 1, none⟩ (.int .i64 (V 1))).setCell ⟨F, 2, none⟩ (.int .i64 (V 2))).setCell ⟨F, 3, none⟩ (.int .i64 (V 3))).drew).cell? ⟨F, 2, none⟩ = some (.int .i64 (V 2)) ∧
    (((((wr.setCell ⟨F, 0, none⟩ (.int .i64 (V 0))).setCell ⟨F, 1, none⟩ (.int .i64 (V 1))).setCell ⟨F, 2, none⟩ (.int .i64 (V 2))).setCell ⟨F, 3, none⟩ (.int .i64 (V 3))).drew).cell? ⟨F, 3, none⟩ = some (.int .i64 (V 3)) := by
  have hr := ((((h.set 0 (.int .i64 (V 0))).set 1 (.int .i64 (V 1))).set 2 (.int .i64 (V 2))).set 3 (.int .i64 (V 3))).drew
  exact ⟨hr.cell (i := 0) (by omega), hr.cell (i := 1) (by omega), hr.cell (i := 2) (by omega), hr.cell (i := 3) (by omega)⟩

/-- What the reader answers. -/
def ans (kd : Int) (V : Nat → Int) (ok : Bool) : Value := .tuple #[.int .u8 (if ok then kd else 0), .agg #[.int .i64 (V 0), .int .i64 (V 1), .int .i64 (V 2), .int .i64 (V 3)], .bool ok]

/-- Behind the loop. -/
def Done (w wr : World) (V : Nat → Int) : Prop := Below w.heap.size w wr ∧ wr.rowIs w.heap.size 35 4 (fld V 4)

set_option maxRecDepth 100000 in
set_option maxHeartbeats 2000000 in
theorem parse_any (kd k0 : Int) (neg : Bool) (g n cap : Nat) (D : Nat → List Int) (P : Nat → Nat) (V : Nat → Int) (w : World) (hg : g < w.heap.size) (hc : n ≤ cap) (hm : n ≤ 1048576) (hL : Line w g n k0 D P)
    (hk : (kd = 1 ∧ k0 = 114) ∨ (kd = 2 ∧ k0 = 119)) (hD : ∀ f, f < 3 → Writes (D f) (V f)) (hD3 : (neg = false ∧ Writes (D 3) (V 3)) ∨ (neg = true ∧ kd = 2 ∧ D 3 = [45, 49] ∧ V 3 = -1)) :
    Calls Try.prog 27 #[.slice (some ⟨g, 0, none⟩) n cap] w fun e w' => e = .returned (ans kd V (!(kd == 2 && V 1 == 0))) ∧ Below w.heap.size w w' := by
  have hc0 := hL.c0
  have hc1 := hL.c1
  have hp0 := hL.p0
  have hP1 : P 1 = _ := hL.ps 0 (by omega)
  have hP2 : P 2 = _ := hL.ps 1 (by omega)
  have hP3 : P 3 = _ := hL.ps 2 (by omega)
  have hP4 : P 4 = _ := hL.ps 3 (by omega)
  have hpn := hL.pn
  have hn2 : (2 : Int) ≤ (n : Int) := by omega
  have hp34 : P 3 + (D 3).length + 1 = n := by omega
  have HP : Hid (P 1 = P 0 + (D 0).length + 1 ∧ P 2 = P 1 + (D 1).length + 1 ∧ P 3 = P 2 + (D 2).length + 1 ∧ P 3 + (D 3).length + 1 = n) := ⟨hP1, hP2, hP3, hp34⟩
  have HP0 : Hid (P 0 = 2) := hp0
  clear hP1 hP2 hP3 hP4 hp0 hpn hp34
  have hk2 : kd = 1 ∨ kd = 2 := by omega
  have HK : Hid ((kd = 1 ∧ k0 = 114) ∨ (kd = 2 ∧ k0 = 119)) := hk
  go_enter Try.func27, Try.ntmps27
  have hkind : ∀ w : World, Calls Try.prog 32 #[.int .u8 k0] w fun e w' => e = .returned (.tuple #[.int .u8 kd, .bool true]) ∧ w' = w := by
    rcases HK.out with ⟨rfl, rfl⟩ | ⟨rfl, rfl⟩
    · exact kind_r
    · exact kind_w
  clear hk
  go_wp2_with fail
  refine (hkind _).mono ?_
  rintro e w1 ⟨rfl, hww⟩
  subst w1
  clear hkind
  go_wp2
  go_loopw [2, 4, 5, 30] (fun v2 v4 v5 v30 wr => ∃ f : Nat, f ≤ 4 ∧ v2 = .int .u8 kd ∧ v4 = .bool true ∧ v30 = .int .i64 f ∧ (f < 4 → v5 = .int .i64 (P f)) ∧ Below w.heap.size w wr ∧ wr.rowIs w.heap.size 35 4 (fld V f))
    (fun _ _ _ v30 _ => 4 - (intOf v30).toNat)
  case atStart =>
    refine ⟨0, by omega, rfl, rfl, rfl, fun _ => by rw [HP0.out]; rfl, (Below.refl _ _).alloc (Nat.le_refl _) _, World.rowIs_alloc w _ 35 _ (fun i hi => ?_)⟩
    simp at hi
    match i, hi with
    | 0, _ | 1, _ | 2, _ | 3, _ => rfl
    | k + 4, h => exact absurd h (by omega)
  case round =>
    obtain ⟨f, hf, rfl, rfl, rfl, h5, hbel, hrow⟩ := hrel
    clear hc0 hc1
    have hLr := hL.below hbel hg
    have hB := hrow.lt
    have hgB : g < wr.heap.size := by omega
    have hfr := fun j => hrow.frozen j
    by_cases hf4 : f < 4
    · obtain rfl := h5 hf4
      clear h5
      have hcf := hrow.cell (i := f) hf4
      by_cases hf3 : f < 3
      · obtain ⟨d1, d2, d3, d4⟩ := hD f hf3
        have hcom := hLr.com f hf3
        have hseg := hLr.seg f hf4
        have hpl : P f + (D f).length + 1 ≤ P 3 := by
          obtain ⟨a, b, c, _⟩ := HP.out
          match f, hf3 with
          | 0, _ => omega
          | 1, _ => omega
          | 2, _ => omega
          | k + 3, h => exact absurd h (by omega)
        have hps : Hid (P (f + 1) = P f + (D f).length + 1) := hLr.ps f hf4
        have hP3n : P 3 < n := by have := HP.out.2.2.2; omega
        have hle : P f ≤ n := by omega
        have hci : ¬ cap = P f := by omega
        have HV : Hid (valL (D f) = V f) := d4
        have hl0 : (((D f).length : Int) == 0) = false := beq_eq_false_iff_ne.2 (by omega)
        have hf3' : ((f : Int) == 3) = false := by simp; omega
        have hPn : (P f : Int) + ((D f).length : Int) < (n : Int) := by omega
        have HLr : Hid (Line wr g n k0 D P) := hLr
        clear hLr d4 hD hD3
        go_wp2_with fail
        refine (lead_any g (P f) (n - P f) (cap - P f) (D f) 44 _ d1 d3 (by omega) (by omega) hseg hcom (by omega)).mono ?_
        rintro e w9 ⟨rfl, hw9⟩
        subst w9
        rw [HV.out]
        clear hseg
        go_wp2
        go_roundw
        case rel => exact ⟨f + 1, by omega, rfl, rfl, by go_num, fun _ => by rw [hps.out]; go_num, hbel.setCell (Nat.le_refl _) _, row_step hrow⟩
        case measure => simp [intOf]; omega
      · obtain rfl : f = 3 := by omega
        clear hf3 hD
        have hlast := hLr.last
        have hpl : P 3 + (D 3).length + 1 = n := HP.out.2.2.2
        have HPL : Hid (P 3 + (D 3).length + 1 = n) := hpl
        rcases hD3 with ⟨hneg, d1, d2, d3, d4⟩ | ⟨hneg, hkd, hd3, hv3⟩
        · have hseg := hLr.seg 3 hf4
          have hci : ¬ cap = P 3 := by omega
          have HV : Hid (valL (D 3) = V 3) := d4
          have hl0 : (((D 3).length : Int) == 0) = false := beq_eq_false_iff_ne.2 (by omega)
          have hPn : (P 3 : Int) + ((D 3).length : Int) < (n : Int) := by omega
          have hPe : ((P 3 : Int) + ((D 3).length : Int) == (n : Int) - 1) = true := by rw [beq_iff_eq]; omega
          have hle : P 3 ≤ n := by omega
          have h1 := hseg 0 d2
          have hbyte := hLr.byte
          obtain ⟨e1, e2⟩ := d1 (D 3)[0] (List.getElem_mem d2)
          have HPN : Hid (∀ w' : World, w' = wr → Calls Try.prog 33 #[.slice (some ⟨g, 0, none⟩) n cap, .int .i64 (P 3), .string ⟨#[45, 49, 41]⟩] w' fun e w'' => e = .returned (.bool false) ∧ w'' = w') := by
            rintro w' rfl
            exact has_no g n cap (P 3) (D 3)[0] w' (by omega) hc hm h1 e1 e2 hbyte
          clear hpl d4 hbyte hLr e1 e2 h1
          rcases hk2 with rfl | rfl
          · go_wp2_with fail
            refine (lead_any g (P 3) (n - P 3) (cap - P 3) (D 3) 41 _ d1 d3 (by omega) (by omega) hseg hlast (by omega)).mono ?_
            rintro e w9 ⟨rfl, hw9⟩
            subst w9
            rw [HV.out]
            clear hseg
            go_wp2
            go_roundw
            case rel => exact ⟨4, by omega, rfl, rfl, by go_num, fun h => absurd h (by omega), hbel.setCell (Nat.le_refl _) _, row_step hrow⟩
            case measure => simp [intOf]
          · go_wp2_with fail
            refine (HPN.out _ rfl).mono ?_
            rintro e w9 ⟨rfl, hw9⟩
            subst w9
            go_wp2_with fail
            refine (lead_any g (P 3) (n - P 3) (cap - P 3) (D 3) 41 _ d1 d3 (by omega) (by omega) hseg hlast (by omega)).mono ?_
            rintro e w9 ⟨rfl, hw9⟩
            subst w9
            rw [HV.out]
            clear hseg
            go_wp2
            go_roundw
            case rel => exact ⟨4, by omega, rfl, rfl, by go_num, fun h => absurd h (by omega), hbel.setCell (Nat.le_refl _) _, row_step hrow⟩
            case measure => simp [intOf]
        · subst hkd
          have hl2 : (D 3).length = 2 := by rw [hd3]; rfl
          have hseg := hLr.seg 3 hf4
          have h0 := hseg 0 (by omega)
          have h1 := hseg 1 (by omega)
          simp only [hd3, List.getElem_cons_zero, List.getElem_cons_succ, Nat.add_zero] at h0 h1
          rw [hl2] at hlast hpl
          have HV3 : Hid (V 3 = -1) := hv3
          have hy := has_yes g n cap (P 3) wr (by omega) hc hm h0 h1 hlast
          have hPn : (P 3 : Int) + 2 < (n : Int) := by omega
          have hPe : ((P 3 : Int) + 2 == (n : Int) - 1) = true := by rw [beq_iff_eq]; omega
          have HY : Hid (Calls Try.prog 33 #[.slice (some ⟨g, 0, none⟩) n cap, .int .i64 (P 3), .string ⟨#[45, 49, 41]⟩] wr fun e w'' => e = .returned (.bool true) ∧ w'' = wr) := hy
          clear hy hv3 hd3 hl2 hseg hLr h0 h1 HPL hpl hk2
          go_wp2_with fail
          refine HY.out.mono ?_
          rintro e w9 ⟨rfl, hw9⟩
          subst w9
          go_wp2
          go_roundw
          case rel =>
            have hr := row_step hrow
            rw [HV3.out] at hr
            exact ⟨4, by omega, rfl, rfl, by go_num, fun h => absurd h (by omega), hbel.setCell (Nat.le_refl _) _, hr⟩
          case measure => simp [intOf]
    · obtain rfl : f = 4 := by omega
      clear h5 hD hD3 hLr hf4
      have q0 : wr.cell? ⟨w.heap.size, 0, none⟩ = some (.int .i64 (V 0)) := hrow.cell (i := 0) (by omega)
      have q1 : wr.cell? ⟨w.heap.size, 1, none⟩ = some (.int .i64 (V 1)) := hrow.cell (i := 1) (by omega)
      have q2 : wr.cell? ⟨w.heap.size, 2, none⟩ = some (.int .i64 (V 2)) := hrow.cell (i := 2) (by omega)
      have q3 : wr.cell? ⟨w.heap.size, 3, none⟩ = some (.int .i64 (V 3)) := hrow.cell (i := 3) (by omega)
      rcases hk2 with rfl | rfl
      · go_wp2
        go_region
        go_wp2
        obtain ⟨r0, r1, r2, r3⟩ := rewritten hrow
        have hbW : Below w.heap.size w (((((wr.setCell ⟨w.heap.size, 0, none⟩ (.int .i64 (V 0))).setCell ⟨w.heap.size, 1, none⟩ (.int .i64 (V 1))).setCell ⟨w.heap.size, 2, none⟩ (.int .i64 (V 2))).setCell ⟨w.heap.size, 3, none⟩ (.int .i64 (V 3))).drew) := ((((hbel.setCell (Nat.le_refl _) _).setCell (Nat.le_refl _) _).setCell (Nat.le_refl _) _).setCell (Nat.le_refl _) _).drew
        generalize ((((wr.setCell ⟨w.heap.size, 0, none⟩ (.int .i64 (V 0))).setCell ⟨w.heap.size, 1, none⟩ (.int .i64 (V 1))).setCell ⟨w.heap.size, 2, none⟩ (.int .i64 (V 2))).setCell ⟨w.heap.size, 3, none⟩ (.int .i64 (V 3))).drew = W at r0 r1 r2 r3 hbW ⊢
        refine bodyPost_ret (v := ans 1 V true) (by simp [results, Try.results27, go_sem, r0, r1, r2, r3, ans]) rfl ⟨?_, hbW⟩
        exact rfl
      · by_cases hv1 : V 1 = 0
        · have hv1' : (V 1 == 0) = true := by simpa using hv1
          clear hv1
          go_wp2
          go_region
          go_wp2
          obtain ⟨r0, r1, r2, r3⟩ := rewritten hrow
          have hbW : Below w.heap.size w (((((wr.setCell ⟨w.heap.size, 0, none⟩ (.int .i64 (V 0))).setCell ⟨w.heap.size, 1, none⟩ (.int .i64 (V 1))).setCell ⟨w.heap.size, 2, none⟩ (.int .i64 (V 2))).setCell ⟨w.heap.size, 3, none⟩ (.int .i64 (V 3))).drew) := ((((hbel.setCell (Nat.le_refl _) _).setCell (Nat.le_refl _) _).setCell (Nat.le_refl _) _).setCell (Nat.le_refl _) _).drew
          generalize ((((wr.setCell ⟨w.heap.size, 0, none⟩ (.int .i64 (V 0))).setCell ⟨w.heap.size, 1, none⟩ (.int .i64 (V 1))).setCell ⟨w.heap.size, 2, none⟩ (.int .i64 (V 2))).setCell ⟨w.heap.size, 3, none⟩ (.int .i64 (V 3))).drew = W at r0 r1 r2 r3 hbW ⊢
          refine bodyPost_ret (v := ans 2 V false) (by simp [results, Try.results27, go_sem, r0, r1, r2, r3, ans]) rfl ⟨?_, hbW⟩
          rw [hv1']; rfl
        · have hv1' : (V 1 == 0) = false := by simpa using hv1
          go_wp2
          go_region
          go_wp2
          obtain ⟨r0, r1, r2, r3⟩ := rewritten hrow
          have hbW : Below w.heap.size w (((((wr.setCell ⟨w.heap.size, 0, none⟩ (.int .i64 (V 0))).setCell ⟨w.heap.size, 1, none⟩ (.int .i64 (V 1))).setCell ⟨w.heap.size, 2, none⟩ (.int .i64 (V 2))).setCell ⟨w.heap.size, 3, none⟩ (.int .i64 (V 3))).drew) := ((((hbel.setCell (Nat.le_refl _) _).setCell (Nat.le_refl _) _).setCell (Nat.le_refl _) _).setCell (Nat.le_refl _) _).drew
          generalize ((((wr.setCell ⟨w.heap.size, 0, none⟩ (.int .i64 (V 0))).setCell ⟨w.heap.size, 1, none⟩ (.int .i64 (V 1))).setCell ⟨w.heap.size, 2, none⟩ (.int .i64 (V 2))).setCell ⟨w.heap.size, 3, none⟩ (.int .i64 (V 3))).drew = W at r0 r1 r2 r3 hbW ⊢
          refine bodyPost_ret (v := ans 2 V true) (by simp [results, Try.results27, go_sem, r0, r1, r2, r3, ans]) rfl ⟨?_, hbW⟩
          rw [hv1']; rfl
end Go.Proofs.Qxb6601361a
