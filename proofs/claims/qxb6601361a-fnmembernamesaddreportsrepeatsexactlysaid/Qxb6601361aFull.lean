/- (*memberNames).add (28) at a full array: the map is made. -/
import Derived.Test.Qxb6601361aAdd
namespace Go.Proofs.Qxb6601361a
open Go.RowKit

theorem index44 (φ : Nat → Value) (w : World) : ∀ k, k < 8 → (Instr.index 44 (.agg #[φ 0, φ 1, φ 2, φ 3, φ 4, φ 5, φ 6, φ 7]) (.int .i64 ((k : Nat) : Int))).run Try.prog w = .ok (φ k) w
  | 0, _ => by kernel_rfl
  | 1, _ => by kernel_rfl
  | 2, _ => by kernel_rfl
  | 3, _ => by kernel_rfl
  | 4, _ => by kernel_rfl
  | 5, _ => by kernel_rfl
  | 6, _ => by kernel_rfl
  | 7, _ => by kernel_rfl
  | k + 8, h => by omega

set_option maxRecDepth 100000 in
set_option maxHeartbeats 1000000 in
theorem addFull (S : Nat) (seen : List (List Int)) (v : Value) (xs : List Int) (w : World) (hS : SetA w S seen) (hv : BL S w v xs) (hx : Byte xs) (hsb : ∀ y ∈ seen, Byte y) (hsl : ∀ y ∈ seen, y.length ≤ 1048576) (hl : xs.length ≤ 1048576) (h8 : seen.length = 8) (hnot : Hid (xs ∉ seen)) :
    Calls Try.prog 28 #[.pointer (some ⟨S, 0, none⟩), v] w fun e w' => e = .returned (.bool (decide (xs ∈ seen))) ∧ Only w w' S none ∧ SetB w' S w.heap.size (plus seen xs) := by
  obtain ⟨-, φ, hrow, e8, e9, hsh, hbx⟩ := hS
  have c8 := hrow.cell (i := 8) (by omega)
  have c9 := hrow.cell (i := 9) (by omega)
  rw [e8, h8] at c8
  rw [e9] at c9
  have HM : Hid (seen.length = 8) := h8
  have HBX : Hid (∀ j (h : j < seen.length), BL S w (φ j) seen[j]) := hbx
  clear h8 e8 e9 hsh hbx
  have hnn := fun wx r => run_eql_map_nil (P := Try.prog) wx 45 9 4 r Try.underlying45
  have hsf := slice_few S 8 (by omega)
  obtain ⟨ao, cp, hve, hvl⟩ := id hv
  obtain ⟨n0, hn0⟩ : ∃ n, xs.length = n := ⟨_, rfl⟩
  rw [hn0] at hve
  subst hve
  have hB := hrow.lt
  go_enter Try.func28, Try.ntmps28
  go_wp2
  go_quiet (fail)
  go_wp2
  go_loop [4, 23] (fun v4 v23 => ∃ k : Nat, k ≤ 8 ∧ v4 = .bool false ∧ v23 = .int .i64 k) (fun _ v23 => 8 - (intOf v23).toNat)
  case atStart => exact ⟨0, Nat.zero_le _, rfl, rfl⟩
  case round =>
    obtain ⟨k, hk, rfl, rfl⟩ := hrel
    by_cases hlt : k < 8
    · have hks : k < seen.length := by have := HM.out; omega
      have ck := hrow.cell (i := k) (by omega)
      have hbk := HBX.out k hks
      have cv1 := conv_bv (φ k) seen[k] (w.drewN nq) (hbk.drewN nq).bv
      have cv2 := conv_bv (.slice ao n0 cp) xs (w.drewN nq) (hv.drewN nq).bv
      have hse := str_eq (hsb seen[k] (List.getElem_mem hks)) hx
      have he : seen[k] ≠ xs := fun e => hnot.out (by rw [← e]; exact List.getElem_mem hks)
      rw [decide_eq_false he] at hse
      obtain ⟨vk, hvk⟩ : ∃ u, φ k = u := ⟨_, rfl⟩
      rw [hvk] at ck cv1
      obtain ⟨sk, hsk⟩ : ∃ u, strOfNums seen[k] = u := ⟨_, rfl⟩
      obtain ⟨sx, hsx⟩ : ∃ u, strOfNums xs = u := ⟨_, rfl⟩
      rw [hsk] at cv1 hse
      rw [hsx] at cv2 hse
      clear hvk hsk hsx hbk he
      go_wp2
      go_round
      case rel => exact ⟨k + 1, by omega, rfl, by go_num⟩
      case measure => simp [intOf]; omega
    · obtain rfl : k = 8 := by omega
      clear hsf
      have hmm := make45
      have hr1 : ((w.drewN nq).alloc (.map #[] 0)).rowIs S 47 10 φ := (World.rowIs.of_block (w := w) (w' := w.drewN nq) hrow rfl).alloc (w := w.drewN nq) _
      have hf := fun j => hr1.frozen j
      have q9 := hr1.cell (i := 9) (by omega)
      have hr2 := hr1.set 9 (.map (some w.heap.size))
      have q0 : (((w.drewN nq).alloc (.map #[] 0)).setCell ⟨S, 9, none⟩ (.map (some w.heap.size))).cell? ⟨S, 0, none⟩ = some (φ 0) := hr2.cell (i := 0) (by omega)
      have q1 : (((w.drewN nq).alloc (.map #[] 0)).setCell ⟨S, 9, none⟩ (.map (some w.heap.size))).cell? ⟨S, 1, none⟩ = some (φ 1) := hr2.cell (i := 1) (by omega)
      have q2 : (((w.drewN nq).alloc (.map #[] 0)).setCell ⟨S, 9, none⟩ (.map (some w.heap.size))).cell? ⟨S, 2, none⟩ = some (φ 2) := hr2.cell (i := 2) (by omega)
      have q3 : (((w.drewN nq).alloc (.map #[] 0)).setCell ⟨S, 9, none⟩ (.map (some w.heap.size))).cell? ⟨S, 3, none⟩ = some (φ 3) := hr2.cell (i := 3) (by omega)
      have q4 : (((w.drewN nq).alloc (.map #[] 0)).setCell ⟨S, 9, none⟩ (.map (some w.heap.size))).cell? ⟨S, 4, none⟩ = some (φ 4) := hr2.cell (i := 4) (by omega)
      have q5 : (((w.drewN nq).alloc (.map #[] 0)).setCell ⟨S, 9, none⟩ (.map (some w.heap.size))).cell? ⟨S, 5, none⟩ = some (φ 5) := hr2.cell (i := 5) (by omega)
      have q6 : (((w.drewN nq).alloc (.map #[] 0)).setCell ⟨S, 9, none⟩ (.map (some w.heap.size))).cell? ⟨S, 6, none⟩ = some (φ 6) := hr2.cell (i := 6) (by omega)
      have q7 : (((w.drewN nq).alloc (.map #[] 0)).setCell ⟨S, 9, none⟩ (.map (some w.heap.size))).cell? ⟨S, 7, none⟩ = some (φ 7) := hr2.cell (i := 7) (by omega)
      have ho2 : Only w (((w.drewN nq).alloc (.map #[] 0)).setCell ⟨S, 9, none⟩ (.map (some w.heap.size))) S none := (((Only.refl w S none).drewN nq).alloc _).setCell _
      have hm2 : MapIs (((w.drewN nq).alloc (.map #[] 0)).setCell ⟨S, 9, none⟩ (.map (some w.heap.size))) w.heap.size [] := (mapIs_made (w.drewN nq)).of_block (Below.heap_setCell _ _ _ _ (by simp; omega))
      have HR2 : Hid ((((w.drewN nq).alloc (.map #[] 0)).setCell ⟨S, 9, none⟩ (.map (some w.heap.size))).rowIs S 47 10 fun j => if j = 9 then .map (some w.heap.size) else φ j) := hr2
      clear hlt hk hr2
      go_wp2
      clear q0 q1 q2 q3 q4 q5 q6 q7 q9 hf hr1 c8 c9 hrow hmm
      go_loopw [62] (fun v62 wr => ∃ k : Nat, k ≤ 8 ∧ v62 = .int .i64 k ∧ Only w wr S none ∧ (wr.rowIs S 47 10 fun j => if j = 9 then .map (some w.heap.size) else φ j) ∧ MapIs wr w.heap.size (seen.take k)) (fun v62 _ => 8 - (intOf v62).toNat)
      case atStart => exact ⟨0, Nat.zero_le _, rfl, ho2, HR2.out, hm2⟩
      case round =>
        clear ho2 hm2 HR2
        obtain ⟨k, hk, rfl, hon, hrow, hmap⟩ := hrel
        have hB1 := hrow.lt
        have c9 : wr.cell? ⟨S, 9, none⟩ = some (.map (some w.heap.size)) := hrow.cell (i := 9) (by omega)
        by_cases hlt : k < 8
        · have hks : k < seen.length := by have := HM.out; omega
          have hix := index44 φ wr k hlt
          have hbk := (HBX.out k hks).only hon
          have cv1 := conv_bv (φ k) seen[k] wr.drew (show BV wr.drew (φ k) seen[k] from hbk.bv)
          obtain ⟨w1, hrun, hmap1, hgr⟩ := MapIs.put (w := wr.drew) (M := w.heap.size) (seen := seen.take k) hmap (hsb _ (List.getElem_mem hks)) (hsl _ (List.getElem_mem hks)) (by simp; omega)
          obtain ⟨vk, hvk⟩ : ∃ u, φ k = u := ⟨_, rfl⟩
          rw [hvk] at hix cv1
          obtain ⟨sk, hsk⟩ : ∃ u, strOfNums seen[k] = u := ⟨_, rfl⟩
          rw [hsk] at cv1 hrun
          have HMP : Hid (MapIs w1 w.heap.size (seen.take (k + 1))) := by
            unfold Hid
            rw [List.take_succ_eq_append_getElem hks]; exact hmap1
          clear hmap hvk hsk hbk hmap1
          go_wp2
          go_region
          go_wp2
          go_roundw
          case rel => exact ⟨k + 1, by omega, by go_num, hon.drew.grown hgr (Or.inr (Nat.le_refl _)), World.rowIs.of_block (w := wr) hrow (hgr.block S hB1 (by simp; omega)), HMP.out⟩
          case measure => simp [intOf]; omega
        · obtain rfl : k = 8 := by omega
          rw [List.take_of_length_le (by have := HM.out; omega)] at hmap
          have hbv := hv.only hon
          have hcv : ∀ n, (convert 22 9 (.slice ao n0 cp)).run Try.prog (wr.drewN n) = .ok (.string (strOfNums xs)) (wr.drewN n) := fun n => conv_bv _ xs (wr.drewN n) (show BV (wr.drewN n) _ xs from hbv.bv)
          have hlk : ∀ n, (Instr.lookup 45 (.map (some w.heap.size)) (.string (strOfNums xs)) false).run Try.prog (wr.drewN n) = .ok (.bool (decide (xs ∈ seen))) (wr.drewN n) := fun n => MapIs.look (w := wr.drewN n) hmap hx hl
          rw [decide_eq_false hnot.out] at hlk
          have HS : Hid (seen.length ≤ 1048576) := by have := HM.out; unfold Hid; omega
          have HR : Hid (SetB wr S w.heap.size seen ∧ S < wr.heap.size) := ⟨⟨by omega, ⟨_, hrow, rfl⟩, hmap⟩, hB1⟩
          clear hrow hmap hB1
          go_wp2
          go_quiet (fail)
          obtain ⟨w1, hrun, hmap1, hgr⟩ := MapIs.put (w := wr.drewN (nq + 1)) HR.out.1.2.2 hx hl HS.out
          have hcv2 := conv_bv (.slice ao n0 cp) xs (wr.drewN (nq + 1)) (show BV (wr.drewN (nq + 1)) _ xs from hbv.bv)
          have HMP : Hid (MapIs w1 w.heap.size (seen ++ [xs])) := hmap1
          clear hcv hlk hmap1
          go_wp2
          go_region
          go_wp2
          go_ret
          refine ⟨by rw [decide_eq_false hnot.out]; rfl, (hon.drewN _).grown hgr (Or.inr (Nat.le_refl _)), ?_⟩
          unfold plus
          rw [if_neg hnot.out]
          obtain ⟨⟨hne, ⟨ψ, hψ, h9⟩, -⟩, hB1⟩ := HR.out
          exact ⟨hne, ⟨ψ, World.rowIs.of_block (w := wr) hψ (hgr.block S hB1 (fun e => hne (by simpa using e.symm))), h9⟩, HMP.out⟩

/-- add, whatever the receiver holds. -/
theorem add_any (S : Nat) (Mo : Option Nat) (seen : List (List Int)) (v : Value) (xs : List Int) (w : World) (hS : SetS w S Mo seen) (hv : BL S w v xs) (hx : Byte xs) (hsb : ∀ y ∈ seen, Byte y) (hsl : ∀ y ∈ seen, y.length ≤ 1048576) (hl : xs.length ≤ 1048576) (hs : seen.length ≤ 1048576) :
    Calls Try.prog 28 #[.pointer (some ⟨S, 0, none⟩), v] w fun e w' => e = .returned (.bool (decide (xs ∈ seen))) ∧ Only w w' S Mo ∧ ∃ Mo', SetS w' S Mo' (plus seen xs) ∧ (Mo' = Mo ∨ ∃ M, Mo' = some M ∧ w.heap.size ≤ M) := by
  rcases hS with ⟨rfl, hA⟩ | ⟨M, rfl, hB⟩
  · by_cases h : seen.length < 8 ∨ xs ∈ seen
    · refine (addA S seen v xs w hA hv hx hsb h).mono ?_
      rintro e w' ⟨h1, h2, h3⟩
      exact ⟨h1, h2, none, Or.inl ⟨rfl, h3⟩, Or.inl rfl⟩
    · have h8 := hA.1
      refine (addFull S seen v xs w hA hv hx hsb hsl hl (by omega) (fun hh => h (Or.inr hh))).mono ?_
      rintro e w' ⟨h1, h2, h3⟩
      exact ⟨h1, h2, some w.heap.size, Or.inr ⟨_, rfl, h3⟩, Or.inr ⟨_, rfl, Nat.le_refl _⟩⟩
  · refine (addB S M seen v xs w hB hv.bv hx hl hs).mono ?_
    rintro e w' ⟨h1, h2, h3⟩
    exact ⟨h1, h3, some M, Or.inr ⟨_, rfl, h2⟩, Or.inl rfl⟩

/-- ZZAdd (22). -/
theorem zzadd_any (S : Nat) (Mo : Option Nat) (seen : List (List Int)) (v : Value) (xs : List Int) (w : World) (hS : SetS w S Mo seen) (hv : BL S w v xs) (hx : Byte xs) (hsb : ∀ y ∈ seen, Byte y) (hsl : ∀ y ∈ seen, y.length ≤ 1048576) (hl : xs.length ≤ 1048576) (hs : seen.length ≤ 1048576) :
    Calls Try.prog 22 #[.pointer (some ⟨S, 0, none⟩), v] w fun e w' => e = .returned (.bool (decide (xs ∈ seen))) ∧ Only w w' S Mo ∧ ∃ Mo', SetS w' S Mo' (plus seen xs) ∧ (Mo' = Mo ∨ ∃ M, Mo' = some M ∧ w.heap.size ≤ M) := by
  have hc := add_any S Mo seen v xs w hS hv hx hsb hsl hl hs
  go_enter Try.func22, Try.ntmps22
  go_wp2_with fail
  refine hc.mono ?_
  rintro e w1 ⟨rfl, h⟩
  go_wp2
  go_ret
  exact ⟨rfl, h⟩
end Go.Proofs.Qxb6601361a
