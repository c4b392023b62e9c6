/- b1SortIndicesByName (23). -/
import Derived.Test.Qxb6601361aSortPlain
namespace Go.Proofs.Qxb6601361a
open Go.RowKit

theorem info3 : (Try.prog.info? 3).map (fun i => (i.zero, i.size, i.bytes)) = some (some (.int .i64 0), 1, 8) := by kernel_rfl
theorem make51 (n : Nat) (hn : n ≤ 1048576) (w : World) : (Instr.makeSlice 51 (.int .i64 (n : Int)) (.int .i64 (n : Int))).run Try.prog w = .ok (.slice (some ⟨w.heap.size, 0, none⟩) n n) (w.alloc (.cells (madeCells #[.int .i64 0] n) 3)) :=
  run_make_row' (P := Try.prog) 51 3 (.int .i64 0) 8 Try.underlying51 info3 rfl .i64 .i64 n (by omega) (by omega) w

/-- The names in memory: cell i of block C holds a []byte that holds N i. -/
def Names (w : World) (C n : Nat) (V : Nat → Value) (N : Nat → List Int) : Prop := ∀ i, i < n → w.cell? ⟨C, i, none⟩ = some (V i) ∧ BV w (V i) (N i)
theorem Names.below {w w' : World} {C n : Nat} {V : Nat → Value} {N : Nat → List Int} (h : Names w C n V N) (hC : C < w.heap.size) (hb : Below w.heap.size w w') : Names w' C n V N := fun i hi => by
  rw [hb.cell (by exact hC)]
  exact ⟨(h i hi).1, (h i hi).2.below hb⟩

theorem merge_left {N : Nat → List Int} {l r : List Nat} {p q : Nat} (hp : p < l.length) (hq : r.length ≤ q ∨ ∃ h : q < r.length, leI N l[p] r[q] = true) :
    (l.drop p).merge (r.drop q) (leI N) = l[p] :: (l.drop (p + 1)).merge (r.drop q) (leI N) := by
  rw [List.drop_eq_getElem_cons hp]
  rcases hq with hq | ⟨hq, h⟩
  · rw [List.drop_of_length_le hq, List.merge_right, List.merge_right]
  · rw [List.drop_eq_getElem_cons hq, List.cons_merge_cons, if_pos h]
theorem merge_rgt {N : Nat → List Int} {l r : List Nat} {p q : Nat} (hq : q < r.length) (hp : l.length ≤ p ∨ ∃ h : p < l.length, leI N l[p] r[q] = false) :
    (l.drop p).merge (r.drop q) (leI N) = r[q] :: (l.drop p).merge (r.drop (q + 1)) (leI N) := by
  rw [List.drop_eq_getElem_cons hq]
  rcases hp with hp | ⟨hp, h⟩
  · rw [List.drop_of_length_le hp, List.nil_merge, List.nil_merge]
  · rw [List.drop_eq_getElem_cons hp, List.cons_merge_cons, if_neg (by rw [h]; decide)]

/-- The two arrays: a holds A; of b the first cells hold done. -/
structure MS (w wr : World) (n fa fb : Nat) (A done : List Nat) : Prop where
  bel : Below w.heap.size w wr
  ne : fa ≠ fb
  ga : w.heap.size ≤ fa
  gb : w.heap.size ≤ fb
  rowA : wr.rowIs fa 3 n (fun x => .int .i64 (A.getD x 0))
  rowB : ∃ φ, wr.rowIs fb 3 n φ ∧ ∀ x (h : x < done.length), φ x = .int .i64 done[x]

theorem MS.drewN {w wr : World} {n fa fb : Nat} {A done : List Nat} (h : MS w wr n fa fb A done) (m : Nat) : MS w (wr.drewN m) n fa fb A done :=
  ⟨⟨h.bel.os, h.bel.tape, h.bel.output, h.bel.size, h.bel.block⟩, h.ne, h.ga, h.gb, h.rowA, h.rowB⟩
theorem MS.put {w wr : World} {n fa fb : Nat} {A done : List Nat} (h : MS w wr n fa fb A done) (v k : Nat) (hk : k = done.length) : MS w (wr.setCell ⟨fb, k, none⟩ (.int .i64 v)) n fa fb A (done ++ [v]) := by
  obtain ⟨φ, h1, h2⟩ := h.rowB
  subst hk
  refine ⟨h.bel.setCell h.gb _, h.ne, h.ga, h.gb, h.rowA.setOther (by exact h.ne) _, _, h1.set _ _, fun x hx => ?_⟩
  by_cases e : x = done.length
  · subst e; simp
  · have hx' : x < done.length := by simp at hx; omega
    simp only [if_neg e]
    rw [h2 x hx', List.getElem_append_left hx']
theorem MS.swap {w wr : World} {n fa fb : Nat} {A done : List Nat} (h : MS w wr n fa fb A done) (hd : done.length = n) : MS w wr n fb fa done [] := by
  obtain ⟨φ, h1, h2⟩ := h.rowB
  refine ⟨h.bel, fun e => h.ne e.symm, h.gb, h.ga, h1.congr fun x hx => ?_, _, h.rowA, fun x hx => absurd hx (by simp)⟩
  rw [h2 x (by omega), List.getD_eq_getElem?_getD, List.getElem?_eq_getElem (by omega)]
  rfl

theorem seg_get {A : List Nat} {lo hi i n : Nat} (hA : A.length = n) (h1 : lo ≤ i) (h2 : i < hi) (h3 : hi ≤ n) : ∃ h : i - lo < ((A.drop lo).take (hi - lo)).length, ((A.drop lo).take (hi - lo))[i - lo] = A.getD i 0 := by
  refine ⟨by rw [List.length_take, List.length_drop]; omega, ?_⟩
  rw [List.getElem_take, List.getElem_drop, List.getD_eq_getElem?_getD]
  have : lo + (i - lo) = i := by omega
  simp only [this]
  rw [List.getElem?_eq_getElem (by omega)]
  rfl
theorem seg_len {A : List Nat} {lo hi n : Nat} (hA : A.length = n) (h1 : lo ≤ hi) (h3 : hi ≤ n) : ((A.drop lo).take (hi - lo)).length = hi - lo := by
  rw [List.length_take, List.length_drop]; omega

theorem getL {A l : List Nat} {lo m i x : Nat} (hl : l = (A.drop lo).take m) {h : i < ((A.drop lo).take m).length} (hx : ((A.drop lo).take m)[i] = x) : ∃ h' : i < l.length, l[i] = x := by
  subst hl; exact ⟨h, hx⟩
theorem sub1 (i lo : Nat) (h : lo ≤ i) : i + 1 - lo = i - lo + 1 := by omega
theorem mg_left {N : Nat → List Int} {l r out : List Nat} {i j lo mid x : Nat} {M : List Nat} (hx : ∃ h : i - lo < l.length, l[i - lo] = x) (hlo : lo ≤ i) (hq : r.length ≤ j - mid ∨ ∃ y, (∃ h : j - mid < r.length, r[j - mid] = y) ∧ leI N x y = true)
    (h : M = out ++ (l.drop (i - lo)).merge (r.drop (j - mid)) (leI N)) : M = (out ++ [x]) ++ (l.drop (i + 1 - lo)).merge (r.drop (j - mid)) (leI N) := by
  obtain ⟨hp, rfl⟩ := hx
  rw [h, merge_left hp (by
    rcases hq with h | ⟨y, ⟨hq, rfl⟩, hle⟩
    · exact Or.inl h
    · exact Or.inr ⟨hq, hle⟩)]
  rw [sub1 i lo hlo]
  simp
theorem mg_right {N : Nat → List Int} {l r out : List Nat} {i j lo mid y : Nat} {M : List Nat} (hy : ∃ h : j - mid < r.length, r[j - mid] = y) (hmid : mid ≤ j) (hq : l.length ≤ i - lo ∨ ∃ x, (∃ h : i - lo < l.length, l[i - lo] = x) ∧ leI N x y = false)
    (h : M = out ++ (l.drop (i - lo)).merge (r.drop (j - mid)) (leI N)) : M = (out ++ [y]) ++ (l.drop (i - lo)).merge (r.drop (j + 1 - mid)) (leI N) := by
  obtain ⟨hp, rfl⟩ := hy
  rw [h, merge_rgt hp (by
    rcases hq with h | ⟨y, ⟨hq, rfl⟩, hle⟩
    · exact Or.inl h
    · exact Or.inr ⟨hq, hle⟩)]
  rw [sub1 j mid hmid]
  simp

theorem halves {N : Nat → List Int} {W n q lo : Nat} {A : List Nat} (h : Blocks N W n A) (hlo : lo = q * (2 * W)) (hn : lo < n) (hW : 1 ≤ W) (mid hi : Nat) (hm : mid = min (lo + W) n) (hh : hi = min (lo + 2 * W) n) :
    Seg N ((A.drop lo).take (mid - lo)) lo mid ∧ Seg N ((A.drop mid).take (hi - mid)) mid hi := by
  have e0 : lo = (2 * q) * W := by rw [hlo, ← Nat.mul_assoc, Nat.mul_comm q 2]
  have h0 := h.2 (2 * q) (by omega)
  rw [← e0, ← hm] at h0
  have t0 : (A.drop lo).take W = (A.drop lo).take (mid - lo) := by
    by_cases e : mid = lo + W
    · rw [show mid - lo = W by omega]
    · rw [List.take_of_length_le (by rw [List.length_drop, h.1]; omega), List.take_of_length_le (by rw [List.length_drop, h.1]; omega)]
  rw [t0] at h0
  refine ⟨h0, ?_⟩
  by_cases e : lo + W < n
  · have e1 : mid = (2 * q + 1) * W := by rw [Nat.add_mul, Nat.one_mul, ← e0]; omega
    have h1 := h.2 (2 * q + 1) (by omega)
    rw [← e1, show min (mid + W) n = hi by omega] at h1
    have t1 : (A.drop mid).take W = (A.drop mid).take (hi - mid) := by
      by_cases e : hi = mid + W
      · rw [show hi - mid = W by omega]
      · rw [List.take_of_length_le (by rw [List.length_drop, h.1]; omega), List.take_of_length_le (by rw [List.length_drop, h.1]; omega)]
    rw [t1] at h1
    exact h1
  · rw [show hi = mid by omega, Nat.sub_self, List.take_zero]
    exact Seg.empty N mid

set_option maxRecDepth 100000 in
set_option maxHeartbeats 4000000 in
theorem sort_any (C n cap : Nat) (V : Nat → Value) (N : Nat → List Int) (w : World) (hC : C < w.heap.size) (hn : n ≤ 65536) (hN : Names w C n V N) (hL : ∀ i, i < n → (N i).length ≤ 1048576) :
    Calls Try.prog 23 #[.slice (some ⟨C, 0, none⟩) n cap] w fun e w' => ∃ fa A, e = .returned (.slice (some ⟨fa, 0, none⟩) n n) ∧ Seg N A 0 n ∧ Below w.heap.size w w' ∧ w.heap.size ≤ fa ∧ fa < w'.heap.size ∧ w'.rowIs fa 3 n (fun x => .int .i64 (A.getD x 0)) := by
  have hmk := make51 n (by omega)
  go_enter Try.func23, Try.ntmps23
  go_wp2
  go_loopw [6] (fun v6 wr => ∃ k : Nat, k ≤ n ∧ v6 = .int .i64 k ∧ Below w.heap.size w wr ∧ (∃ φ, wr.rowIs w.heap.size 3 n φ ∧ ∀ x, x < k → φ x = .int .i64 x) ∧ ∃ ψ, wr.rowIs (w.heap.size + 1) 3 n ψ) (fun v6 _ => n - (intOf v6).toNat)
  case atStart =>
    refine ⟨0, Nat.zero_le _, rfl, ((Below.refl _ _).alloc (Nat.le_refl _) _).alloc (by simp) _, ⟨_, (World.rowIs_made w _ n 3).alloc _, fun x hx => absurd hx (by omega)⟩, fun _ => .int .i64 0, ?_⟩
    have := World.rowIs_made (w.alloc (.cells (madeCells #[.int .i64 0] n) 3)) (.int .i64 0) n 3
    rw [World.size_alloc] at this
    exact this
  case round =>
    obtain ⟨k, hk, rfl, hbel, ⟨φ, hrow, hφ⟩, ψ, hψ⟩ := hrel
    by_cases hlt : k < n
    · have hB := hrow.lt
      have g0 := hrow.cell (i := k) hlt
      have hfr := fun j => hrow.frozen j
      go_wp2
      go_roundw
      case rel =>
        refine ⟨k + 1, by omega, by go_num, hbel.setCell (Nat.le_refl _) _, ⟨_, hrow.set _ _, fun x hx => ?_⟩, ψ, hψ.setOther (by simp) _⟩
        by_cases e : x = k
        · subst e; simp
        · simp only [if_neg e]; exact hφ x (by omega)
      case measure => simp [intOf]; omega
    · obtain rfl : k = n := by omega
      have hms : MS w wr k w.heap.size (w.heap.size + 1) (List.range k) [] := by
        refine ⟨hbel, by omega, Nat.le_refl _, by omega, hrow.congr fun x hx => ?_, ψ, hψ, fun x hx => absurd hx (by simp)⟩
        rw [hφ x hx]
        simp [List.getD_eq_getElem?_getD, hx]
      have hbl := blocks_one N k
      clear hφ hrow hψ hbel
      obtain ⟨wo, hwo⟩ : ∃ wo : World, wo = wr := ⟨_, rfl⟩
      subst hwo
      go_wp2
      generalize w.heap.size + 1 = F1 at hms ⊢
      generalize hF0 : w.heap.size = F0 at hms ⊢
      have HF : Hid (w.heap.size = F0) := hF0
      clear hF0
      clear hlt hk hmk
      go_loopw [4, 5, 7] (fun v4 v5 v7 wr => ∃ (W fa fb : Nat) (A : List Nat), v7 = .int .i64 W ∧ v4 = .slice (some ⟨fa, 0, none⟩) k k ∧ v5 = .slice (some ⟨fb, 0, none⟩) k k ∧ 1 ≤ W ∧ W ≤ 131072 ∧ Blocks N W k A ∧ MS w wr k fa fb A []) (fun _ _ v7 _ => k - (intOf v7).toNat)
      case atStart => exact ⟨1, F0, F1, List.range k, rfl, rfl, rfl, by omega, by omega, hbl, hms⟩
      case round =>
        clear hms hbl
        obtain ⟨W, fa, fb, A, rfl, rfl, rfl, hW1, hW2, hbl, hms⟩ := hrel
        by_cases hWn : W < k
        · obtain ⟨wp, hwp⟩ : ∃ wp : World, wp = wr := ⟨_, rfl⟩
          subst hwp
          have hAl := hbl.1
          have HAL : Hid (A.length = k) := hAl
          clear hAl
          go_wp2
          go_loopw [8] (fun v8 wr => ∃ (q lo : Nat) (D : List Nat), v8 = .int .i64 lo ∧ Hid (lo = q * (2 * W)) ∧ lo ≤ 400000 ∧ Blocks N (2 * W) (min lo k) D ∧ MS w wr k fa fb A D) (fun v8 _ => k - (intOf v8).toNat)
          case atStart => exact ⟨0, 0, [], rfl, by simp [Hid], by omega, by simpa using blocks_nil N (2 * W), hms⟩
          case round =>
            clear hms
            obtain ⟨q, lo, D, rfl, hlo, hlo2, hblD, hms⟩ := hrel
            by_cases hlon : lo < k
            · obtain ⟨wq, hwq⟩ : ∃ wq : World, wq = wr := ⟨_, rfl⟩
              subst hwq
              obtain ⟨mid, hmid⟩ : ∃ m, m = min (lo + W) k := ⟨_, rfl⟩
              obtain ⟨hi, hhi⟩ : ∃ m, m = min (lo + 2 * W) k := ⟨_, rfl⟩
              have m1 : lo ≤ mid := by omega
              have m2 : mid ≤ hi := by omega
              have m3 : hi ≤ k := by omega
              have HM : Hid (mid = min (lo + W) k) := hmid
              have HH : Hid (hi = min (lo + 2 * W) k) := hhi
              clear hmid hhi
              by_cases g1 : (k : Int) < (lo : Int) + (W : Int)
              · have g2 : (k : Int) < (lo : Int) + 2 * (W : Int) := by omega
                have e1 : k = mid := by have := HM.out; omega
                have e2 : k = hi := by have := HH.out; omega
                subst e1 e2
                go_wp2
                obtain ⟨hS1, hS2⟩ := halves hbl hlo.out hlon hW1 k k HM.out HH.out
                obtain ⟨l, hl⟩ : ∃ l, l = (A.drop lo).take (k - lo) := ⟨_, rfl⟩
                obtain ⟨r, hr⟩ : ∃ r, r = (A.drop k).take (k - k) := ⟨_, rfl⟩
                rw [← hl] at hS1
                rw [← hr] at hS2
                have HSL : Hid (l = (A.drop lo).take (k - lo)) := hl
                have HSR : Hid (r = (A.drop k).take (k - k)) := hr
                clear hl hr
                have hDl : Hid (D.length = lo) := by have := hblD.1; show D.length = lo; omega
                go_loopw [11, 12, 13] (fun v11 v12 v13 wr => ∃ (i j kk : Nat) (out : List Nat), v11 = .int .i64 i ∧ v12 = .int .i64 j ∧ v13 = .int .i64 kk ∧ lo ≤ i ∧ i ≤ k ∧ k ≤ j ∧ j ≤ k ∧ kk = i + j - k ∧ Hid (out.length = (i - lo) + (j - k)) ∧ Hid (l.merge r (leI N) = out ++ (l.drop (i - lo)).merge (r.drop (j - k)) (leI N)) ∧ MS w wr k fa fb A (D ++ out)) (fun _ _ v13 _ => k - (intOf v13).toNat)
                case atStart => exact ⟨lo, k, lo, [], rfl, rfl, rfl, by omega, by omega, by omega, by omega, by omega, by simp [Hid], by simp [Hid], by simpa using hms⟩
                case round =>
                  clear hms
                  obtain ⟨i, j, kk, out, rfl, rfl, rfl, i1, i2, j1, j2, hkk, hol, hmg, hms⟩ := hrel
                  have HKK : Hid (kk = i + j - k) := hkk
                  by_cases hend : kk < k
                  · have hgaB := hms.rowA.lt
                    obtain ⟨φ, hrowB, hφ⟩ := hms.rowB
                    have hgbB := hrowB.lt
                    have hcB := hrowB.cell (i := kk) (by omega)
                    have hfB := fun o => hrowB.frozen o
                    clear hφ
                    have hlenk : kk = (D ++ out).length := by rw [List.length_append, hDl.out, hol.out]; omega
                    have HLK : Hid (kk = (D ++ out).length) := hlenk
                    clear hlenk hkk
                    have hNr : Names wr C k V N := hN.below hC hms.bel
                    by_cases hi1 : i < k
                    · obtain ⟨pi, hpi⟩ := seg_get HAL.out i1 hi1 (by omega)
                      have hxm := hS1.mem (x := A.getD i 0) (by rw [← hpi, HSL.out]; exact List.getElem_mem _)
                      have hcA : wr.cell? ⟨fa, i, none⟩ = some (.int .i64 (A.getD i 0)) := hms.rowA.cell (i := i) (by omega)
                      obtain ⟨x, hx⟩ : ∃ x, A.getD i 0 = x := ⟨_, rfl⟩
                      rw [hx] at hxm hcA hpi
                      by_cases hj1 : j < k
                      · exact absurd hj1 (by omega)
                      · have HX : Hid (A.getD i 0 = x) := hx
                        have HPI : Hid (((A.drop lo).take (k - lo))[i - lo]'pi = x) := hpi
                        clear hx hpi hNr
                        have dj : (k : Int) ≤ (j : Int) := by omega
                        have dj2 : k ≤ j := by omega
                        have di : (i : Int) < (k : Int) := by omega
                        go_wp2
                        go_quiet (fail)
                        go_wp2
                        go_roundw
                        case rel => exact ⟨i + 1, j, kk + 1, out ++ [x], by go_num, rfl, by go_num, by omega, by omega, j1, j2, by have := HKK.out; omega, by show _ = _; rw [List.length_append, hol.out]; simp; omega, mg_left (getL HSL.out HPI.out) i1 (Or.inl (by rw [hS2.len]; omega)) hmg.out, by rw [← List.append_assoc]; exact (hms.drewN _).put x kk HLK.out⟩
                        case measure => simp [intOf]; omega
                    · exact absurd hend (by have := HKK.out; omega)
                  · have ei : i = k := by have := HKK.out; omega
                    have ej : j = k := by have := HKK.out; omega
                    have hout : l.merge r (leI N) = out := by
                      rw [hmg.out, ei, ej, List.drop_of_length_le (by rw [hS1.len]; omega), List.nil_merge, List.drop_of_length_le (by rw [hS2.len]; omega), List.append_nil]
                    have hsg : Seg N out lo k := hout ▸ hS1.merge hS2 m1 m2
                    have hnew : Blocks N (2 * W) (min (lo + 2 * W) k) (D ++ out) := by
                      have h1 := hblD
                      rw [show min lo k = lo by omega, hlo.out] at h1
                      have h2 := hsg
                      rw [HH.out, hlo.out] at h2
                      have := blocks_snoc (by omega) h1 h2 (by have := hlo.out; omega)
                      rw [← hlo.out] at this
                      exact this
                    have HKE : Hid (kk = i + j - k) := HKK
                    clear hout hsg ei ej hmg hS1 hS2 HSL HSR hkk
                    go_wp2
                    go_roundw
                    case rel => exact ⟨q + 1, lo + 2 * W, D ++ out, by go_num, by show _ = _; rw [Nat.add_mul, ← hlo.out]; omega, by omega, hnew, hms⟩
                    case measure => simp [intOf]; omega
              · have g1' : decide ((k : Int) < (lo : Int) + (W : Int)) = false := decide_eq_false g1
                by_cases g2 : (k : Int) < (lo : Int) + 2 * (W : Int)
                · have e2 : k = hi := by have := HH.out; omega
                  subst e2
                  go_wp2
                  rw [show ((lo : Int) + (W : Int)) = (mid : Int) from by have := HM.out; omega]
                  obtain ⟨hS1, hS2⟩ := halves hbl hlo.out hlon hW1 mid k HM.out HH.out
                  obtain ⟨l, hl⟩ : ∃ l, l = (A.drop lo).take (mid - lo) := ⟨_, rfl⟩
                  obtain ⟨r, hr⟩ : ∃ r, r = (A.drop mid).take (k - mid) := ⟨_, rfl⟩
                  rw [← hl] at hS1
                  rw [← hr] at hS2
                  have HSL : Hid (l = (A.drop lo).take (mid - lo)) := hl
                  have HSR : Hid (r = (A.drop mid).take (k - mid)) := hr
                  clear hl hr
                  have hDl : Hid (D.length = lo) := by have := hblD.1; show D.length = lo; omega
                  go_loopw [11, 12, 13] (fun v11 v12 v13 wr => ∃ (i j kk : Nat) (out : List Nat), v11 = .int .i64 i ∧ v12 = .int .i64 j ∧ v13 = .int .i64 kk ∧ lo ≤ i ∧ i ≤ mid ∧ mid ≤ j ∧ j ≤ k ∧ kk = i + j - mid ∧ Hid (out.length = (i - lo) + (j - mid)) ∧ Hid (l.merge r (leI N) = out ++ (l.drop (i - lo)).merge (r.drop (j - mid)) (leI N)) ∧ MS w wr k fa fb A (D ++ out)) (fun _ _ v13 _ => k - (intOf v13).toNat)
                  case atStart => exact ⟨lo, mid, lo, [], rfl, rfl, rfl, by omega, by omega, by omega, by omega, by omega, by simp [Hid], by simp [Hid], by simpa using hms⟩
                  case round =>
                    clear hms
                    obtain ⟨i, j, kk, out, rfl, rfl, rfl, i1, i2, j1, j2, hkk, hol, hmg, hms⟩ := hrel
                    have HKK : Hid (kk = i + j - mid) := hkk
                    by_cases hend : kk < k
                    · have hgaB := hms.rowA.lt
                      obtain ⟨φ, hrowB, hφ⟩ := hms.rowB
                      have hgbB := hrowB.lt
                      have hcB := hrowB.cell (i := kk) (by omega)
                      have hfB := fun o => hrowB.frozen o
                      clear hφ
                      have hlenk : kk = (D ++ out).length := by rw [List.length_append, hDl.out, hol.out]; omega
                      have HLK : Hid (kk = (D ++ out).length) := hlenk
                      clear hlenk hkk
                      have hNr : Names wr C k V N := hN.below hC hms.bel
                      by_cases hi1 : i < mid
                      · obtain ⟨pi, hpi⟩ := seg_get HAL.out i1 hi1 (by omega)
                        have hxm := hS1.mem (x := A.getD i 0) (by rw [← hpi, HSL.out]; exact List.getElem_mem _)
                        have hcA : wr.cell? ⟨fa, i, none⟩ = some (.int .i64 (A.getD i 0)) := hms.rowA.cell (i := i) (by omega)
                        obtain ⟨x, hx⟩ : ∃ x, A.getD i 0 = x := ⟨_, rfl⟩
                        rw [hx] at hxm hcA hpi
                        by_cases hj1 : j < k
                        · obtain ⟨pj, hpj⟩ := seg_get HAL.out j1 hj1 (by omega)
                          have hym := hS2.mem (x := A.getD j 0) (by rw [← hpj, HSR.out]; exact List.getElem_mem _)
                          have hcA2 : wr.cell? ⟨fa, j, none⟩ = some (.int .i64 (A.getD j 0)) := hms.rowA.cell (i := j) (by omega)
                          obtain ⟨y, hy⟩ : ∃ y, A.getD j 0 = y := ⟨_, rfl⟩
                          rw [hy] at hym hcA2 hpj
                          obtain ⟨hvx, hbx⟩ := hNr x (by omega)
                          obtain ⟨hvy, hby⟩ := hNr y (by omega)
                          have hcmp : ∀ m, Calls Try.prog 24 #[V x, V y] (wr.drewN m) fun e w' => e = .returned (.int .i64 (cmpB (N x) (N y))) ∧ ∃ m', w' = (wr.drewN m).drewN m' := fun m => cmp_any (V x) (V y) (N x) (N y) (wr.drewN m) hbx hby (hL x (by omega)) (hL y (by omega))
                          have hle := leI_lt N x y (by omega)
                          obtain ⟨c, hc⟩ : ∃ c, cmpB (N x) (N y) = c := ⟨_, rfl⟩
                          rw [hc] at hcmp hle
                          obtain ⟨vx, hvx'⟩ : ∃ v, V x = v := ⟨_, rfl⟩
                          obtain ⟨vy, hvy'⟩ : ∃ v, V y = v := ⟨_, rfl⟩
                          rw [hvx'] at hvx hcmp
                          rw [hvy'] at hvy hcmp
                          have HLE : Hid (leI N x y = decide (c ≤ 0)) := hle
                          have HX : Hid (A.getD i 0 = x) := hx
                          have HY : Hid (A.getD j 0 = y) := hy
                          have HPI : Hid (((A.drop lo).take (mid - lo))[i - lo]'pi = x) := hpi
                          have HPJ : Hid (((A.drop mid).take (k - mid))[j - mid]'pj = y) := hpj
                          clear hle hx hy hpi hpj hc hvx' hvy' hbx hby hNr
                          have dj : decide ((k : Int) ≤ (j : Int)) = false := decide_eq_false (by omega)
                          have dj2 : decide (k ≤ j) = false := decide_eq_false (by omega)
                          have di : (i : Int) < (mid : Int) := by omega
                          by_cases hc0 : c ≤ 0
                          · go_wp2
                            go_quiet ((go_at_call 24; exact Calls.quiet_of (hcmp _)))
                            go_wp2
                            go_roundw
                            case rel => exact ⟨i + 1, j, kk + 1, out ++ [x], by go_num, rfl, by go_num, by omega, by omega, j1, j2, by have := HKK.out; omega, by show _ = _; rw [List.length_append, hol.out]; simp; omega, mg_left (getL HSL.out HPI.out) i1 (Or.inr ⟨y, getL HSR.out HPJ.out, by rw [HLE.out]; exact decide_eq_true hc0⟩) hmg.out, by rw [← List.append_assoc]; exact (hms.drewN _).put x kk HLK.out⟩
                            case measure => simp [intOf]; omega
                          · have dc : decide (c ≤ 0) = false := decide_eq_false hc0
                            go_wp2
                            go_quiet ((go_at_call 24; exact Calls.quiet_of (hcmp _)))
                            go_wp2
                            go_roundw
                            case rel => exact ⟨i, j + 1, kk + 1, out ++ [y], rfl, by go_num, by go_num, i1, i2, by omega, by omega, by have := HKK.out; omega, by show _ = _; rw [List.length_append, hol.out]; simp; omega, mg_right (getL HSR.out HPJ.out) j1 (Or.inr ⟨x, getL HSL.out HPI.out, by rw [HLE.out]; exact dc⟩) hmg.out, by rw [← List.append_assoc]; exact (hms.drewN _).put y kk HLK.out⟩
                            case measure => simp [intOf]; omega
                        · have HX : Hid (A.getD i 0 = x) := hx
                          have HPI : Hid (((A.drop lo).take (mid - lo))[i - lo]'pi = x) := hpi
                          clear hx hpi hNr
                          have dj : (k : Int) ≤ (j : Int) := by omega
                          have dj2 : k ≤ j := by omega
                          have di : (i : Int) < (mid : Int) := by omega
                          go_wp2
                          go_quiet (fail)
                          go_wp2
                          go_roundw
                          case rel => exact ⟨i + 1, j, kk + 1, out ++ [x], by go_num, rfl, by go_num, by omega, by omega, j1, j2, by have := HKK.out; omega, by show _ = _; rw [List.length_append, hol.out]; simp; omega, mg_left (getL HSL.out HPI.out) i1 (Or.inl (by rw [hS2.len]; omega)) hmg.out, by rw [← List.append_assoc]; exact (hms.drewN _).put x kk HLK.out⟩
                          case measure => simp [intOf]; omega
                      · have hj1 : j < k := by have := HKK.out; omega
                        obtain ⟨pj, hpj⟩ := seg_get HAL.out j1 hj1 (by omega)
                        have hym := hS2.mem (x := A.getD j 0) (by rw [← hpj, HSR.out]; exact List.getElem_mem _)
                        have hcA2 : wr.cell? ⟨fa, j, none⟩ = some (.int .i64 (A.getD j 0)) := hms.rowA.cell (i := j) (by omega)
                        obtain ⟨y, hy⟩ : ∃ y, A.getD j 0 = y := ⟨_, rfl⟩
                        rw [hy] at hym hcA2 hpj
                        have HPJ : Hid (((A.drop mid).take (k - mid))[j - mid]'pj = y) := hpj
                        clear hy hpj hNr
                        have di : decide ((i : Int) < (mid : Int)) = false := decide_eq_false (by omega)
                        have di2 : decide (i < mid) = false := decide_eq_false (by omega)
                        go_wp2
                        go_quiet (fail)
                        go_wp2
                        go_roundw
                        case rel => exact ⟨i, j + 1, kk + 1, out ++ [y], rfl, by go_num, by go_num, i1, i2, by omega, by omega, by have := HKK.out; omega, by show _ = _; rw [List.length_append, hol.out]; simp; omega, mg_right (getL HSR.out HPJ.out) j1 (Or.inl (by rw [hS1.len]; omega)) hmg.out, by rw [← List.append_assoc]; exact (hms.drewN _).put y kk HLK.out⟩
                        case measure => simp [intOf]; omega
                    · have ei : i = mid := by have := HKK.out; omega
                      have ej : j = k := by have := HKK.out; omega
                      have hout : l.merge r (leI N) = out := by
                        rw [hmg.out, ei, ej, List.drop_of_length_le (by rw [hS1.len]; omega), List.nil_merge, List.drop_of_length_le (by rw [hS2.len]; omega), List.append_nil]
                      have hsg : Seg N out lo k := hout ▸ hS1.merge hS2 m1 m2
                      have hnew : Blocks N (2 * W) (min (lo + 2 * W) k) (D ++ out) := by
                        have h1 := hblD
                        rw [show min lo k = lo by omega, hlo.out] at h1
                        have h2 := hsg
                        rw [HH.out, hlo.out] at h2
                        have := blocks_snoc (by omega) h1 h2 (by have := hlo.out; omega)
                        rw [← hlo.out] at this
                        exact this
                      have HKE : Hid (kk = i + j - mid) := HKK
                      clear hout hsg ei ej hmg hS1 hS2 HSL HSR hkk
                      go_wp2
                      go_roundw
                      case rel => exact ⟨q + 1, lo + 2 * W, D ++ out, by go_num, by show _ = _; rw [Nat.add_mul, ← hlo.out]; omega, by omega, hnew, hms⟩
                      case measure => simp [intOf]; omega
                · have g2' : decide ((k : Int) < (lo : Int) + 2 * (W : Int)) = false := decide_eq_false g2
                  go_wp2
                  rw [show ((lo : Int) + (W : Int)) = (mid : Int) from by have := HM.out; omega, show ((lo : Int) + 2 * (W : Int)) = (hi : Int) from by have := HH.out; omega]
                  obtain ⟨hS1, hS2⟩ := halves hbl hlo.out hlon hW1 mid hi HM.out HH.out
                  obtain ⟨l, hl⟩ : ∃ l, l = (A.drop lo).take (mid - lo) := ⟨_, rfl⟩
                  obtain ⟨r, hr⟩ : ∃ r, r = (A.drop mid).take (hi - mid) := ⟨_, rfl⟩
                  rw [← hl] at hS1
                  rw [← hr] at hS2
                  have HSL : Hid (l = (A.drop lo).take (mid - lo)) := hl
                  have HSR : Hid (r = (A.drop mid).take (hi - mid)) := hr
                  clear hl hr
                  have hDl : Hid (D.length = lo) := by have := hblD.1; show D.length = lo; omega
                  go_loopw [11, 12, 13] (fun v11 v12 v13 wr => ∃ (i j kk : Nat) (out : List Nat), v11 = .int .i64 i ∧ v12 = .int .i64 j ∧ v13 = .int .i64 kk ∧ lo ≤ i ∧ i ≤ mid ∧ mid ≤ j ∧ j ≤ hi ∧ kk = i + j - mid ∧ Hid (out.length = (i - lo) + (j - mid)) ∧ Hid (l.merge r (leI N) = out ++ (l.drop (i - lo)).merge (r.drop (j - mid)) (leI N)) ∧ MS w wr k fa fb A (D ++ out)) (fun _ _ v13 _ => hi - (intOf v13).toNat)
                  case atStart => exact ⟨lo, mid, lo, [], rfl, rfl, rfl, by omega, by omega, by omega, by omega, by omega, by simp [Hid], by simp [Hid], by simpa using hms⟩
                  case round =>
                    clear hms
                    obtain ⟨i, j, kk, out, rfl, rfl, rfl, i1, i2, j1, j2, hkk, hol, hmg, hms⟩ := hrel
                    have HKK : Hid (kk = i + j - mid) := hkk
                    by_cases hend : kk < hi
                    · have hgaB := hms.rowA.lt
                      obtain ⟨φ, hrowB, hφ⟩ := hms.rowB
                      have hgbB := hrowB.lt
                      have hcB := hrowB.cell (i := kk) (by omega)
                      have hfB := fun o => hrowB.frozen o
                      clear hφ
                      have hlenk : kk = (D ++ out).length := by rw [List.length_append, hDl.out, hol.out]; omega
                      have HLK : Hid (kk = (D ++ out).length) := hlenk
                      clear hlenk hkk
                      have hNr : Names wr C k V N := hN.below hC hms.bel
                      by_cases hi1 : i < mid
                      · obtain ⟨pi, hpi⟩ := seg_get HAL.out i1 hi1 (by omega)
                        have hxm := hS1.mem (x := A.getD i 0) (by rw [← hpi, HSL.out]; exact List.getElem_mem _)
                        have hcA : wr.cell? ⟨fa, i, none⟩ = some (.int .i64 (A.getD i 0)) := hms.rowA.cell (i := i) (by omega)
                        obtain ⟨x, hx⟩ : ∃ x, A.getD i 0 = x := ⟨_, rfl⟩
                        rw [hx] at hxm hcA hpi
                        by_cases hj1 : j < hi
                        · obtain ⟨pj, hpj⟩ := seg_get HAL.out j1 hj1 (by omega)
                          have hym := hS2.mem (x := A.getD j 0) (by rw [← hpj, HSR.out]; exact List.getElem_mem _)
                          have hcA2 : wr.cell? ⟨fa, j, none⟩ = some (.int .i64 (A.getD j 0)) := hms.rowA.cell (i := j) (by omega)
                          obtain ⟨y, hy⟩ : ∃ y, A.getD j 0 = y := ⟨_, rfl⟩
                          rw [hy] at hym hcA2 hpj
                          obtain ⟨hvx, hbx⟩ := hNr x (by omega)
                          obtain ⟨hvy, hby⟩ := hNr y (by omega)
                          have hcmp : ∀ m, Calls Try.prog 24 #[V x, V y] (wr.drewN m) fun e w' => e = .returned (.int .i64 (cmpB (N x) (N y))) ∧ ∃ m', w' = (wr.drewN m).drewN m' := fun m => cmp_any (V x) (V y) (N x) (N y) (wr.drewN m) hbx hby (hL x (by omega)) (hL y (by omega))
                          have hle := leI_lt N x y (by omega)
                          obtain ⟨c, hc⟩ : ∃ c, cmpB (N x) (N y) = c := ⟨_, rfl⟩
                          rw [hc] at hcmp hle
                          obtain ⟨vx, hvx'⟩ : ∃ v, V x = v := ⟨_, rfl⟩
                          obtain ⟨vy, hvy'⟩ : ∃ v, V y = v := ⟨_, rfl⟩
                          rw [hvx'] at hvx hcmp
                          rw [hvy'] at hvy hcmp
                          have HLE : Hid (leI N x y = decide (c ≤ 0)) := hle
                          have HX : Hid (A.getD i 0 = x) := hx
                          have HY : Hid (A.getD j 0 = y) := hy
                          have HPI : Hid (((A.drop lo).take (mid - lo))[i - lo]'pi = x) := hpi
                          have HPJ : Hid (((A.drop mid).take (hi - mid))[j - mid]'pj = y) := hpj
                          clear hle hx hy hpi hpj hc hvx' hvy' hbx hby hNr
                          have dj : decide ((hi : Int) ≤ (j : Int)) = false := decide_eq_false (by omega)
                          have dj2 : decide (hi ≤ j) = false := decide_eq_false (by omega)
                          have di : (i : Int) < (mid : Int) := by omega
                          by_cases hc0 : c ≤ 0
                          · go_wp2
                            go_quiet ((go_at_call 24; exact Calls.quiet_of (hcmp _)))
                            go_wp2
                            go_roundw
                            case rel => exact ⟨i + 1, j, kk + 1, out ++ [x], by go_num, rfl, by go_num, by omega, by omega, j1, j2, by have := HKK.out; omega, by show _ = _; rw [List.length_append, hol.out]; simp; omega, mg_left (getL HSL.out HPI.out) i1 (Or.inr ⟨y, getL HSR.out HPJ.out, by rw [HLE.out]; exact decide_eq_true hc0⟩) hmg.out, by rw [← List.append_assoc]; exact (hms.drewN _).put x kk HLK.out⟩
                            case measure => simp [intOf]; omega
                          · have dc : decide (c ≤ 0) = false := decide_eq_false hc0
                            go_wp2
                            go_quiet ((go_at_call 24; exact Calls.quiet_of (hcmp _)))
                            go_wp2
                            go_roundw
                            case rel => exact ⟨i, j + 1, kk + 1, out ++ [y], rfl, by go_num, by go_num, i1, i2, by omega, by omega, by have := HKK.out; omega, by show _ = _; rw [List.length_append, hol.out]; simp; omega, mg_right (getL HSR.out HPJ.out) j1 (Or.inr ⟨x, getL HSL.out HPI.out, by rw [HLE.out]; exact dc⟩) hmg.out, by rw [← List.append_assoc]; exact (hms.drewN _).put y kk HLK.out⟩
                            case measure => simp [intOf]; omega
                        · have HX : Hid (A.getD i 0 = x) := hx
                          have HPI : Hid (((A.drop lo).take (mid - lo))[i - lo]'pi = x) := hpi
                          clear hx hpi hNr
                          have dj : (hi : Int) ≤ (j : Int) := by omega
                          have dj2 : hi ≤ j := by omega
                          have di : (i : Int) < (mid : Int) := by omega
                          go_wp2
                          go_quiet (fail)
                          go_wp2
                          go_roundw
                          case rel => exact ⟨i + 1, j, kk + 1, out ++ [x], by go_num, rfl, by go_num, by omega, by omega, j1, j2, by have := HKK.out; omega, by show _ = _; rw [List.length_append, hol.out]; simp; omega, mg_left (getL HSL.out HPI.out) i1 (Or.inl (by rw [hS2.len]; omega)) hmg.out, by rw [← List.append_assoc]; exact (hms.drewN _).put x kk HLK.out⟩
                          case measure => simp [intOf]; omega
                      · have hj1 : j < hi := by have := HKK.out; omega
                        obtain ⟨pj, hpj⟩ := seg_get HAL.out j1 hj1 (by omega)
                        have hym := hS2.mem (x := A.getD j 0) (by rw [← hpj, HSR.out]; exact List.getElem_mem _)
                        have hcA2 : wr.cell? ⟨fa, j, none⟩ = some (.int .i64 (A.getD j 0)) := hms.rowA.cell (i := j) (by omega)
                        obtain ⟨y, hy⟩ : ∃ y, A.getD j 0 = y := ⟨_, rfl⟩
                        rw [hy] at hym hcA2 hpj
                        have HPJ : Hid (((A.drop mid).take (hi - mid))[j - mid]'pj = y) := hpj
                        clear hy hpj hNr
                        have di : decide ((i : Int) < (mid : Int)) = false := decide_eq_false (by omega)
                        have di2 : decide (i < mid) = false := decide_eq_false (by omega)
                        go_wp2
                        go_quiet (fail)
                        go_wp2
                        go_roundw
                        case rel => exact ⟨i, j + 1, kk + 1, out ++ [y], rfl, by go_num, by go_num, i1, i2, by omega, by omega, by have := HKK.out; omega, by show _ = _; rw [List.length_append, hol.out]; simp; omega, mg_right (getL HSR.out HPJ.out) j1 (Or.inl (by rw [hS1.len]; omega)) hmg.out, by rw [← List.append_assoc]; exact (hms.drewN _).put y kk HLK.out⟩
                        case measure => simp [intOf]; omega
                    · have ei : i = mid := by have := HKK.out; omega
                      have ej : j = hi := by have := HKK.out; omega
                      have hout : l.merge r (leI N) = out := by
                        rw [hmg.out, ei, ej, List.drop_of_length_le (by rw [hS1.len]; omega), List.nil_merge, List.drop_of_length_le (by rw [hS2.len]; omega), List.append_nil]
                      have hsg : Seg N out lo hi := hout ▸ hS1.merge hS2 m1 m2
                      have hnew : Blocks N (2 * W) (min (lo + 2 * W) k) (D ++ out) := by
                        have h1 := hblD
                        rw [show min lo k = lo by omega, hlo.out] at h1
                        have h2 := hsg
                        rw [HH.out, hlo.out] at h2
                        have := blocks_snoc (by omega) h1 h2 (by have := hlo.out; omega)
                        rw [← hlo.out] at this
                        exact this
                      have HKE : Hid (kk = i + j - mid) := HKK
                      clear hout hsg ei ej hmg hS1 hS2 HSL HSR hkk
                      go_wp2
                      go_roundw
                      case rel => exact ⟨q + 1, lo + 2 * W, D ++ out, by go_num, by show _ = _; rw [Nat.add_mul, ← hlo.out]; omega, by omega, hnew, hms⟩
                      case measure => simp [intOf]; omega
            · have hfull : Blocks N (2 * W) k D := by have := hblD; rw [show min lo k = k by omega] at this; exact this
              have hsw := hms.swap hfull.1
              clear hms hblD
              go_wp2
              go_roundw
              case rel => exact ⟨2 * W, fb, fa, D, by go_num, rfl, rfl, by omega, by omega, hfull, hsw⟩
              case measure => simp [intOf]; omega
        · have hsg := blocks_end hbl (by omega)
          go_wp2
          go_ret
          exact ⟨fa, A, rfl, hsg, hms.bel, hms.ga, hms.rowA.lt, hms.rowA⟩
end Go.Proofs.Qxb6601361a
