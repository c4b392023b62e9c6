/- (*memberNames).add (28). -/
import Derived.Test.Qxb6601361aMapSet
import Derived.Deep.RegionHeld3
namespace Go.Proofs.Qxb6601361a
open Go.RowKit

/-- Of the old blocks only S and the map's turn. -/
structure Only (w w' : World) (S : Nat) (Mo : Option Nat) : Prop where
  os : w'.os = w.os
  tape : w'.tape = w.tape
  output : w'.output = w.output
  size : w.heap.size ≤ w'.heap.size
  block : ∀ k, k < w.heap.size → k ≠ S → some k ≠ Mo → w'.heap[k]? = w.heap[k]?

theorem Only.refl (w : World) (S : Nat) (Mo : Option Nat) : Only w w S Mo := ⟨rfl, rfl, rfl, Nat.le_refl _, fun _ _ _ _ => rfl⟩
theorem Only.drewN {w w' : World} {S : Nat} {Mo : Option Nat} (h : Only w w' S Mo) (n : Nat) : Only w (w'.drewN n) S Mo := ⟨h.os, h.tape, h.output, h.size, h.block⟩
theorem Only.drew {w w' : World} {S : Nat} {Mo : Option Nat} (h : Only w w' S Mo) : Only w w'.drew S Mo := ⟨h.os, h.tape, h.output, h.size, h.block⟩
theorem Only.setCell {w w' : World} {S o : Nat} {Mo : Option Nat} (h : Only w w' S Mo) (u : Value) : Only w (w'.setCell ⟨S, o, none⟩ u) S Mo :=
  ⟨h.os, h.tape, h.output, by simpa [World.setCell] using h.size, fun k hk h1 h2 => by rw [Below.heap_setCell _ _ _ _ h1]; exact h.block k hk h1 h2⟩
theorem Only.alloc {w w' : World} {S : Nat} {Mo : Option Nat} (h : Only w w' S Mo) (o : Obj) : Only w (w'.alloc o) S Mo := by
  have hs := h.size
  exact ⟨h.os, h.tape, h.output, by simp; omega, fun k hk h1 h2 => by rw [Below.heap_alloc _ _ _ (by omega)]; exact h.block k hk h1 h2⟩
theorem Only.grown {w w' w'' : World} {S M : Nat} {Mo : Option Nat} (h : Only w w' S Mo) (hg : w'.grownBy w'' (some M)) (hM : Mo = some M ∨ w.heap.size ≤ M) : Only w w'' S Mo := by
  have hs := h.size
  refine ⟨hg.os.trans h.os, hg.tape.trans h.tape, hg.output.trans h.output, Nat.le_trans hs hg.size, fun k hk h1 h2 => ?_⟩
  rw [hg.block k (by omega) (fun e => by
    have e' : k = M := by simpa using e
    subst e'
    rcases hM with hM | hM
    · exact h2 hM.symm
    · omega)]
  exact h.block k hk h1 h2

/-- A []byte value, nil or not, that holds xs, in a block below S. -/
def BL (S : Nat) (w : World) (v : Value) (xs : List Int) : Prop := ∃ ao cap, v = .slice ao xs.length cap ∧ (xs = [] ∨ ∃ b o, ao = some ⟨b, o, none⟩ ∧ b < w.heap.size ∧ b < S ∧ Lies w b o xs)
theorem BL.bv {S : Nat} {w : World} {v : Value} {xs : List Int} (h : BL S w v xs) : BV w v xs := by
  obtain ⟨ao, cap, h1, h2⟩ := h
  refine ⟨ao, cap, h1, ?_⟩
  rcases h2 with h2 | ⟨b, o, h3, h4, _, h5⟩
  · exact Or.inl h2
  · exact Or.inr ⟨b, o, h3, h4, h5⟩
theorem BL.setCell {C o : Nat} {w : World} {v u : Value} {xs : List Int} (h : BL C w v xs) : BL C (w.setCell ⟨C, o, none⟩ u) v xs := by
  obtain ⟨ao, cap, h1, h2⟩ := h
  refine ⟨ao, cap, h1, ?_⟩
  rcases h2 with h2 | ⟨b, o', h3, h4, h6, h5⟩
  · exact Or.inl h2
  · refine Or.inr ⟨b, o', h3, by simpa [World.setCell] using h4, h6, fun i hi => ?_⟩
    rw [World.cell?_of_block (w := w) (a := ⟨b, o' + i, none⟩) (Below.heap_setCell _ _ _ _ (Nat.ne_of_lt h6))]
    exact h5 i hi
/-- Below S all stands as it stood. -/
theorem BL.below {S : Nat} {w w' : World} {v : Value} {xs : List Int} (h : BL S w v xs) (hb : Below S w w') : BL S w' v xs := by
  obtain ⟨ao, cap, h1, h2⟩ := h
  refine ⟨ao, cap, h1, ?_⟩
  rcases h2 with h2 | ⟨b, o, h3, h4, h6, h5⟩
  · exact Or.inl h2
  · exact Or.inr ⟨b, o, h3, Nat.lt_of_lt_of_le h4 hb.size, h6, fun i hi => (World.cell?_of_block (w := w) (a := ⟨b, o + i, none⟩) (hb.block b h6)).trans (h5 i hi)⟩
theorem BV.bl {w w' : World} {v : Value} {xs : List Int} (h : BV w v xs) (hb : Below w.heap.size w w') : BL w.heap.size w' v xs := by
  obtain ⟨ao, cap, h1, h2⟩ := h
  refine ⟨ao, cap, h1, ?_⟩
  rcases h2 with h2 | ⟨b, o, h3, h4, h5⟩
  · exact Or.inl h2
  · exact Or.inr ⟨b, o, h3, Nat.lt_of_lt_of_le h4 hb.size, h4, h5.below hb h4⟩

/-- The names seen so far, while they are few: the list lies in the struct's own array. -/
def SetA (w : World) (S : Nat) (seen : List (List Int)) : Prop :=
  seen.length ≤ 8 ∧ ∃ φ, w.rowIs S 47 10 φ ∧ φ 8 = .int .i64 seen.length ∧ φ 9 = .map none ∧ (∀ j, j < 8 → ∃ ao n c, φ j = .slice ao n c) ∧ ∀ j (h : j < seen.length), BL S w (φ j) seen[j]
/-- .. once they are many: a map. -/
def SetB (w : World) (S M : Nat) (seen : List (List Int)) : Prop := M ≠ S ∧ (∃ φ, w.rowIs S 47 10 φ ∧ φ 9 = .map (some M)) ∧ MapIs w M seen
def SetS (w : World) (S : Nat) (Mo : Option Nat) (seen : List (List Int)) : Prop := (Mo = none ∧ SetA w S seen) ∨ ∃ M, Mo = some M ∧ SetB w S M seen

/-- What the receiver holds behind an add. -/
def plus (seen : List (List Int)) (xs : List Int) : List (List Int) := if xs ∈ seen then seen else seen ++ [xs]

theorem BL.drewN {C : Nat} {w : World} {v : Value} {xs : List Int} (h : BL C w v xs) (n : Nat) : BL C (w.drewN n) v xs := h

set_option maxHeartbeats 1000000 in
theorem addB (S M : Nat) (seen : List (List Int)) (v : Value) (xs : List Int) (w : World) (hS : SetB w S M seen) (hv : BV w v xs) (hx : Byte xs) (hl : xs.length ≤ 1048576) (hs : seen.length ≤ 1048576) :
    Calls Try.prog 28 #[.pointer (some ⟨S, 0, none⟩), v] w fun e w' => e = .returned (.bool (decide (xs ∈ seen))) ∧ SetB w' S M (plus seen xs) ∧ Only w w' S (some M) := by
  obtain ⟨hne, ⟨φ, hrow, h9⟩, hmap⟩ := hS
  have c9 := hrow.cell (i := 9) (by omega)
  rw [h9] at c9
  have hcv : ∀ n, (convert 22 9 v).run Try.prog (w.drewN n) = .ok (.string (strOfNums xs)) (w.drewN n) := fun n => conv_bv v xs (w.drewN n) hv
  have hlk : ∀ n, (Instr.lookup 45 (.map (some M)) (.string (strOfNums xs)) false).run Try.prog (w.drewN n) = .ok (.bool (decide (xs ∈ seen))) (w.drewN n) := fun n => MapIs.look (w := w.drewN n) hmap hx hl
  have hnn := fun wx r => run_eql_map_nil (P := Try.prog) wx 45 9 4 r Try.underlying45
  by_cases hin : xs ∈ seen
  · rw [decide_eq_true hin] at hlk ⊢
    go_enter Try.func28, Try.ntmps28
    go_wp2
    go_quiet (fail)
    go_wp2
    go_ret
    refine ⟨rfl, ?_, (Only.refl _ _ _).drewN _⟩
    unfold plus
    rw [if_pos hin]
    exact ⟨hne, ⟨φ, hrow, h9⟩, hmap⟩
  · rw [decide_eq_false hin] at hlk ⊢
    go_enter Try.func28, Try.ntmps28
    go_wp2
    go_quiet (fail)
    obtain ⟨w1, hrun, hmap1, hgr⟩ := MapIs.put (w := w.drewN (nq + 1)) hmap hx hl hs
    have hcv2 := conv_bv v xs (w.drewN (nq + 1)) hv
    clear hcv hlk
    go_wp2
    go_region
    go_wp2
    go_ret
    refine ⟨rfl, ?_, ((Only.refl w S (some M)).drewN _).grown hgr (Or.inl rfl)⟩
    unfold plus
    rw [if_neg hin]
    exact ⟨hne, ⟨φ, World.rowIs.of_block (w := w) hrow (hgr.block S hrow.lt (fun e => hne (by simpa using e.symm))), h9⟩, hmap1⟩

theorem BL.only {S : Nat} {w w' : World} {v : Value} {xs : List Int} (h : BL S w v xs) (ho : Only w w' S none) : BL S w' v xs := by
  obtain ⟨ao, cap, h1, h2⟩ := h
  refine ⟨ao, cap, h1, ?_⟩
  rcases h2 with h2 | ⟨b, o, h3, h4, h6, h5⟩
  · exact Or.inl h2
  · exact Or.inr ⟨b, o, h3, Nat.lt_of_lt_of_le h4 ho.size, h6, fun i hi => (World.cell?_of_block (w := w) (a := ⟨b, o + i, none⟩) (ho.block b h4 (by omega) (by simp))).trans (h5 i hi)⟩

theorem SetS.kept {w w' : World} {S : Nat} {Mo : Option Nat} {seen : List (List Int)} (h : SetS w S Mo seen) (hb : Below S w w') (hS : w'.heap[S]? = w.heap[S]?) (hM : ∀ M, Mo = some M → w'.heap[M]? = w.heap[M]?) : SetS w' S Mo seen := by
  rcases h with ⟨h0, h1, φ, h2, h3, h4, h5, h6⟩ | ⟨M, h0, h1, ⟨φ, h2, h3⟩, h4⟩
  · exact Or.inl ⟨h0, h1, φ, World.rowIs.of_block (w := w) h2 hS, h3, h4, h5, fun j hj => (h6 j hj).below hb⟩
  · exact Or.inr ⟨M, h0, h1, ⟨φ, World.rowIs.of_block (w := w) h2 hS, h3⟩, h4.of_block (hM M h0)⟩
theorem Only.below {w w' : World} {S : Nat} {Mo : Option Nat} (h : Only w w' S Mo) (hS : S ≤ w.heap.size) (hM : ∀ M, Mo = some M → S ≤ M) : Below S w w' :=
  ⟨h.os, h.tape, h.output, h.size, fun k hk => h.block k (by omega) (by omega) (fun e => by have := hM k e.symm; omega)⟩

theorem alen44 : Try.prog.arrayLen 44 = 8 := by kernel_rfl
theorem elem44 : Try.prog.elem 44 = 22 := by kernel_rfl
theorem und44 : Try.prog.underlying 44 = some (.array (Try.prog.arrayLen 44) (Try.prog.elem 44)) := by kernel_rfl
theorem size22 (w : World) : (sizeOf 22).run Try.prog w = .ok 1 w := by kernel_rfl
theorem slice_few (S m : Nat) (h2 : m ≤ 8) (w : World) : (Instr.sliceAt 44 (.pointer (some ⟨S, 0, none⟩)) none (some (.int .i64 (m : Int))) none).run Try.prog w = .ok (.slice (some ⟨S, 0, none⟩) m 8) w := by
  rw [run_sliceAt_array_h w 44 ⟨S, 0, none⟩ und44 .i64 _ (by omega) (by rw [alen44]; omega), elem44, size22, alen44]
  simp only [Result.andThen_ok, slicedAt, Int.toNat_natCast, WideShapes.add_plain, Nat.zero_mul, Nat.zero_add, Nat.sub_zero]
  rw [if_neg (by omega)]

theorem make45 (w : World) : (Instr.makeMap 45 (some (.int .i64 16))).run Try.prog w = .ok (.map (some w.heap.size)) (w.alloc (.map #[] 0)) := by kernel_rfl

/-- The loop over the few: xs is among the first k. -/
theorem mem_take {seen : List (List Int)} {xs : List Int} {k : Nat} (h : k < seen.length) (hn : xs ∉ seen.take k) (hne : seen[k] ≠ xs) : xs ∉ seen.take (k + 1) := by
  rw [List.take_succ_eq_append_getElem h, List.mem_append]
  rintro (h1 | h1)
  · exact hn h1
  · simp at h1; exact hne h1.symm

set_option maxRecDepth 100000 in
set_option maxHeartbeats 1000000 in
theorem addA (S : Nat) (seen : List (List Int)) (v : Value) (xs : List Int) (w : World) (hS : SetA w S seen) (hv : BL S w v xs) (hx : Byte xs) (hsb : ∀ y ∈ seen, Byte y) (hc : Hid (seen.length < 8 ∨ xs ∈ seen)) :
    Calls Try.prog 28 #[.pointer (some ⟨S, 0, none⟩), v] w fun e w' => e = .returned (.bool (decide (xs ∈ seen))) ∧ Only w w' S none ∧ SetA w' S (plus seen xs) := by
  obtain ⟨h8, φ, hrow, e8, e9, hsh, hbx⟩ := hS
  have c8 := hrow.cell (i := 8) (by omega)
  have c9 := hrow.cell (i := 9) (by omega)
  rw [e8] at c8
  rw [e9] at c9
  obtain ⟨m, hm⟩ : ∃ m, seen.length = m := ⟨_, rfl⟩
  rw [hm] at c8 h8
  have HM : Hid (seen.length = m) := hm
  have HE8 : Hid (φ 8 = .int .i64 seen.length) := e8
  have HE9 : Hid (φ 9 = .map none) := e9
  have HSH : Hid (∀ j, j < 8 → ∃ ao n c, φ j = .slice ao n c) := hsh
  have HBX : Hid (∀ j (h : j < seen.length), BL S w (φ j) seen[j]) := hbx
  clear hm e8 e9 hsh hbx
  have hnn := fun wx r => run_eql_map_nil (P := Try.prog) wx 45 9 4 r Try.underlying45
  have hsf := slice_few S m h8
  obtain ⟨ao, cp, hve, hvl⟩ := id hv
  obtain ⟨n0, hn0⟩ : ∃ n, xs.length = n := ⟨_, rfl⟩
  rw [hn0] at hve
  subst hve
  have hB := hrow.lt
  go_enter Try.func28, Try.ntmps28
  go_wp2
  go_quiet (fail)
  go_wp2
  go_loop [4, 23] (fun v4 v23 => ∃ k : Nat, k ≤ m ∧ v4 = .bool false ∧ v23 = .int .i64 k ∧ Hid (xs ∉ seen.take k)) (fun _ v23 => m - (intOf v23).toNat)
  case atStart => exact ⟨0, Nat.zero_le _, rfl, rfl, by simp [Hid]⟩
  case round =>
    obtain ⟨k, hk, rfl, rfl, hnot⟩ := hrel
    by_cases hlt : k < m
    · have hks : k < seen.length := by have := HM.out; omega
      have ck := hrow.cell (i := k) (by omega)
      have hbk := HBX.out k hks
      have cv1 := conv_bv (φ k) seen[k] (w.drewN nq) (hbk.drewN nq).bv
      have cv2 := conv_bv (.slice ao n0 cp) xs (w.drewN nq) (hv.drewN nq).bv
      have hse := str_eq (hsb seen[k] (List.getElem_mem hks)) hx
      obtain ⟨vk, hvk⟩ : ∃ u, φ k = u := ⟨_, rfl⟩
      rw [hvk] at ck cv1
      obtain ⟨sk, hsk⟩ : ∃ u, strOfNums seen[k] = u := ⟨_, rfl⟩
      obtain ⟨sx, hsx⟩ : ∃ u, strOfNums xs = u := ⟨_, rfl⟩
      rw [hsk] at cv1 hse
      rw [hsx] at cv2 hse
      clear hvk hsk hsx hbk
      by_cases he : seen[k] = xs
      · rw [decide_eq_true he] at hse
        have hmem : xs ∈ seen := by rw [← he]; exact List.getElem_mem hks
        have HP : Hid (plus seen xs = seen) := by unfold plus; exact if_pos hmem
        have HME : Hid (xs ∈ seen) := hmem
        clear he hmem
        go_wp2
        go_ret
        refine ⟨by rw [decide_eq_true HME.out]; rfl, (Only.refl _ _ _).drewN _, ?_⟩
        rw [HP.out]
        exact ⟨by have := HM.out; omega, φ, hrow, HE8.out, HE9.out, HSH.out, HBX.out⟩
      · rw [decide_eq_false he] at hse
        have HNE : Hid (seen[k] ≠ xs) := he
        clear he
        go_wp2
        go_round
        case rel => exact ⟨k + 1, by omega, rfl, by go_num, mem_take hks hnot.out HNE.out⟩
        case measure => simp [intOf]; omega
    · obtain rfl : k = m := by omega
      have hmem : xs ∉ seen := by have := hnot.out; rw [List.take_of_length_le (by have := HM.out; omega)] at this; exact this
      have HP : Hid (plus seen xs = seen ++ [xs]) := by unfold plus; exact if_neg hmem
      have HME : Hid (xs ∉ seen) := hmem
      clear hmem hsf
      by_cases h7 : k < 8
      · have ck := hrow.cell (i := k) (by omega)
        have hfr := fun j => hrow.frozen j
        have hk8 : ¬ k = 8 := by omega
        go_wp2
        go_region
        go_wp2
        go_ret
        refine ⟨by rw [decide_eq_false HME.out]; rfl, (((Only.refl w S none).drewN _).setCell _).setCell _, ?_⟩
        rw [HP.out]
        have hlen := HM.out
        refine ⟨by simp; omega, _, ((World.rowIs.of_block (w := w) (w' := w.drewN (nq + 1)) hrow rfl).set k (.slice ao n0 cp)).set 8 (.int .i64 ((k : Int) + 1)), ?_, ?_, fun j hj => ?_, fun j hj => ?_⟩
        · simp only [if_true, List.length_append, List.length_cons, List.length_nil, hlen]
          rfl
        · simp only [if_neg (show ¬ (9 = 8) by omega), if_neg (show ¬ (9 = k) by omega)]
          exact HE9.out
        · simp only [if_neg (show ¬ (j = 8) by omega)]
          by_cases e : j = k
          · simp only [if_pos e]; exact ⟨_, _, _, rfl⟩
          · simp only [if_neg e]; exact HSH.out j hj
        · have hj' : j < k + 1 := by simp at hj; omega
          simp only [if_neg (show ¬ (j = 8) by omega)]
          by_cases e : j = k
          · subst e
            simp only [if_true]
            rw [List.getElem_append_right (by omega)]
            simp only [hlen, Nat.sub_self, List.getElem_cons_zero]
            exact ((hv.drewN _).setCell).setCell
          · simp only [if_neg e]
            rw [List.getElem_append_left (by omega)]
            exact (((HBX.out j (by omega)).drewN _).setCell).setCell
      · exfalso
        have h1 := HM.out
        rcases hc.out with h2 | h2
        · omega
        · exact HME.out h2
end Go.Proofs.Qxb6601361a
