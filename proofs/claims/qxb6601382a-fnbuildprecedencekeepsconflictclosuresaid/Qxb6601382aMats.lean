/- Matrices of bools: sb1NewMatrix (17), sb1SameMatrix (18); sb1IndexOf (14), sb1EqualInts (16). -/
import Derived.Test.Qxb6601382aSmall
namespace Go.Proofs.Qxb6601382a
open Go.RowKit

/-- The n by n matrix M: its header's block R, its rows in the n blocks behind it. -/
def Mat (w : World) (R n : Nat) (M : Nat → Nat → Bool) : Prop := w.rowIs R 30 n (fun i => .slice (some ⟨R + 1 + i, 0, none⟩) n n) ∧ ∀ i, i < n → w.rowIs (R + 1 + i) 4 n (fun j => .bool (M i j))
theorem Mat.of_block {w w' : World} {R n : Nat} {M : Nat → Nat → Bool} (h : Mat w R n M) (hb : ∀ b, R ≤ b → b ≤ R + n → w'.heap[b]? = w.heap[b]?) : Mat w' R n M :=
  ⟨h.1.of_block (hb R (Nat.le_refl _) (by omega)), fun i hi => (h.2 i hi).of_block (hb _ (by omega) (by omega))⟩
theorem Mat.below {w w' : World} {B R n : Nat} {M : Nat → Nat → Bool} (h : Mat w R n M) (hb : Below B w w') (hB : R + n < B) : Mat w' R n M := h.of_block fun b _ h2 => hb.block b (by omega)
theorem Mat.lt {w : World} {R n : Nat} {M : Nat → Nat → Bool} (h : Mat w R n M) : R + n < w.heap.size := by
  by_cases h0 : n = 0
  · subst h0; exact h.1.lt
  · have := (h.2 (n - 1) (by omega)).lt; omega
def updM (M : Nat → Nat → Bool) (i j : Nat) : Nat → Nat → Bool := fun a b => if a = i ∧ b = j then true else M a b
theorem Mat.set {w : World} {R n : Nat} {M : Nat → Nat → Bool} (h : Mat w R n M) {i j : Nat} : Mat (w.setCell ⟨R + 1 + i, j, none⟩ (.bool true)) R n (updM M i j) := by
  refine ⟨h.1.setOther (by show R ≠ R + 1 + i; omega) _, fun a ha => ?_⟩
  by_cases e : a = i
  · subst e
    refine ((h.2 a ha).set j (.bool true)).congr fun b hb => ?_
    unfold updM
    by_cases e : b = j <;> simp [e]
  · refine ((h.2 a ha).setOther (by show R + 1 + a ≠ R + 1 + i; omega) _).congr fun b hb => ?_
    simp [updM, e]

theorem info30 : (Try.prog.info? 30).map (fun i => (i.zero, i.size, i.bytes)) = some (some (.slice none 0 0), 1, 24) := by kernel_rfl
theorem info4 : (Try.prog.info? 4).map (fun i => (i.zero, i.size, i.bytes)) = some (some (.bool false), 1, 1) := by kernel_rfl
theorem make36 (n : Nat) (hn : n ≤ 65536) (w : World) : (Instr.makeSlice 36 (.int .i64 (n : Int)) (.int .i64 (n : Int))).run Try.prog w = .ok (.slice (some ⟨w.heap.size, 0, none⟩) n n) (w.alloc (.cells (madeCells #[.slice none 0 0] n) 30)) :=
  run_make_row' (P := Try.prog) 36 30 (.slice none 0 0) 24 Try.underlying36 info30 rfl .i64 .i64 n (by omega) (by omega) w
theorem make30 (n : Nat) (hn : n ≤ 65536) (w : World) : (Instr.makeSlice 30 (.int .i64 (n : Int)) (.int .i64 (n : Int))).run Try.prog w = .ok (.slice (some ⟨w.heap.size, 0, none⟩) n n) (w.alloc (.cells (madeCells #[.bool false] n) 4)) :=
  run_make_row' (P := Try.prog) 30 4 (.bool false) 1 Try.underlying30 info4 rfl .i64 .i64 n (by omega) (by omega) w

set_option maxHeartbeats 1000000 in
theorem newMat (n : Nat) (w : World) (hn : n ≤ 65536) (R : Nat) (hR : w.heap.size = R) :
    Calls Try.prog 17 #[.int .i64 n] w fun e w' => e = .returned (.slice (some ⟨R, 0, none⟩) n n) ∧ Below R w w' ∧ Mat w' R n (fun _ _ => false) := by
  have h36 := make36 n hn
  have h30 := make30 n hn
  go_enter Try.func17, Try.ntmps17
  go_wp2
  go_loopw [4] (fun v wr => ∃ k : Nat, k ≤ n ∧ v = .int .i64 k ∧ Below R w wr ∧ wr.heap.size = R + 1 + k ∧ wr.rowIs R 30 n (fun i => if i < k then .slice (some ⟨R + 1 + i, 0, none⟩) n n else .slice none 0 0) ∧ ∀ i, i < k → wr.rowIs (R + 1 + i) 4 n (fun _ => .bool false)) (fun v _ => n - (intOf v).toNat)
  case atStart =>
    have h := World.rowIs_made w (.slice none 0 0) n 30
    rw [hR] at h
    exact ⟨0, Nat.zero_le _, rfl, (Below.refl _ _).alloc (by omega) _, by simp [hR], h.congr fun i _ => by simp, fun i hi => by omega⟩
  case round =>
    obtain ⟨k, hk, rfl, hbel, hsz, hrow, hrows⟩ := hrel
    by_cases hlt : k < n
    · have i1 : (k : Int) < (n : Int) := by omega
      have g0 := fun ob : Obj => (hrow.alloc ob).cell (i := k) hlt
      have f0 := fun ob : Obj => (hrow.alloc ob).frozen k
      have hm := World.rowIs_made wr (.bool false) n 4
      have hal := hrow.alloc (.cells (madeCells #[.bool false] n) 4)
      have hrs := fun i hi => (hrows i hi).alloc (.cells (madeCells #[.bool false] n) 4)
      rw [hsz] at hm
      simp at g0
      go_wp2
      go_roundw
      case rel =>
        refine ⟨k + 1, by omega, by go_num, (hbel.alloc (by omega) _).setCell (Nat.le_refl _) _, by simp [hsz]; omega, ?_, fun i hi => ?_⟩
        · refine (hal.set k _).congr fun i hi => ?_
          by_cases e : i = k
          · subst e; simp
          · by_cases e2 : i < k
            · simp [e, e2, show i < k + 1 by omega]
            · simp [e, e2, show ¬ i < k + 1 by omega]
        · by_cases e : i = k
          · subst e; exact hm.setOther (by show R + 1 + i ≠ R; omega) _
          · exact (hrs i (by omega)).setOther (by show R + 1 + i ≠ R; omega) _
      case measure => simp [intOf]; omega
    · obtain rfl : k = n := by omega
      go_wp2
      go_ret
      refine ⟨rfl, hbel, hrow.congr fun i hi => by simp [hi], hrows⟩

set_option maxHeartbeats 1000000 in
theorem sameMat (A B n : Nat) (M M' : Nat → Nat → Bool) (w : World) (hn : n ≤ 65536) (hA : Mat w A n M) (hB : Mat w B n M') (heq : ∀ i j, i < n → j < n → M i j = M' i j) :
    Calls Try.prog 18 #[.slice (some ⟨A, 0, none⟩) n n, .slice (some ⟨B, 0, none⟩) n n] w fun e w' => e = .returned (.bool true) ∧ ∃ q, w' = w.drewN q := by
  go_enter Try.func18, Try.ntmps18
  go_wp2
  go_loopw [5] (fun v wx => ∃ k m : Nat, k ≤ n ∧ v = .int .i64 k ∧ wx = w.drewN m) (fun v _ => n - (intOf v).toNat)
  case atStart => exact ⟨0, 0, Nat.zero_le _, rfl, rfl⟩
  case round =>
    obtain ⟨k, m, hk, rfl, rfl⟩ := hrel
    by_cases hlt : k < n
    · have i1 : (k : Int) < (n : Int) := by omega
      have a0 := hA.1.cell (i := k) hlt
      have b0 := hB.1.cell (i := k) hlt
      go_wp2
      go_quiet (fail)
      go_wp2
      go_loopw [6] (fun v wx => ∃ j m : Nat, j ≤ n ∧ v = .int .i64 j ∧ wx = w.drewN m) (fun v _ => n - (intOf v).toNat)
      case atStart => exact ⟨0, _, Nat.zero_le _, rfl, World.drewN_drewN ..⟩
      case round =>
        obtain ⟨j, m2, hj, rfl, rfl⟩ := hrel
        by_cases hlt2 : j < n
        · have i2 : (j : Int) < (n : Int) := by omega
          have a1 := (hA.2 k hlt).cell (i := j) hlt2
          have b1 := (hB.2 k hlt).cell (i := j) hlt2
          rw [← heq k j hlt hlt2] at b1
          generalize M k j = c at a1 b1
          cases c
          · go_wp2
            go_quiet (fail)
            go_wp2
            go_roundw
            case rel => exact ⟨j + 1, _, by omega, by go_num, rfl⟩
            case measure => simp [intOf]; omega
          · go_wp2
            go_quiet (fail)
            go_wp2
            go_roundw
            case rel => exact ⟨j + 1, _, by omega, by go_num, rfl⟩
            case measure => simp [intOf]; omega
        · obtain rfl : j = n := by omega
          go_wp2
          go_roundw
          case rel => exact ⟨k + 1, _, by omega, by go_num, rfl⟩
          case measure => simp [intOf]; omega
    · obtain rfl : k = n := by omega
      go_wp2
      go_ret
      exact ⟨rfl, _, rfl⟩

def idxI (l : List Int) (x : Int) : Int := if x ∈ l then (l.idxOf x : Int) else -1
theorem indexOf (a : Option Addr) (n c B : Nat) (l : List Int) (x : Int) (w : World) (h : OwnI w B (.slice a n c) l) (hn : Hid (l.length = n)) (hl : n ≤ 65536) :
    Calls Try.prog 14 #[.slice a n c, .int .i64 x] w fun e w' => e = .returned (.int .i64 (idxI l x)) ∧ w' = w := by
  go_enter Try.func14, Try.ntmps14
  go_wp2
  go_loop [5] (fun v => ∃ k : Nat, k ≤ n ∧ v = .int .i64 k ∧ Hid (x ∉ l.take k)) (fun v => n - (intOf v).toNat)
  case atStart => exact ⟨0, Nat.zero_le _, rfl, by simp [Hid]⟩
  case round =>
    obtain ⟨k, hk, rfl, hnot⟩ := hrel
    by_cases hlt : k < n
    · have hkx : k < l.length := by have := hn.out; omega
      obtain ⟨g, rfl, hc⟩ := h.get hkx
      have i1 : (k : Int) < (n : Int) := by omega
      have ht := List.take_succ_eq_append_getElem hkx
      by_cases e : l[k] = x
      · have hi0 : idxI l x = k := by
          have hm : x ∈ l := by rw [← e]; exact List.getElem_mem hkx
          unfold idxI
          rw [if_pos hm, ← List.take_append_drop (k + 1) l, List.idxOf_append, if_pos (by rw [ht, ← e]; exact List.mem_append_right _ (List.mem_singleton.2 rfl)), ht, List.idxOf_append, if_neg hnot.out, e]
          simp; omega
        have hi : Hid (idxI l x = k) := hi0
        rw [e] at hc
        clear ht e hi0
        go_wp2
        go_ret
        exact ⟨by rw [hi.out]; rfl, rfl⟩
      · have hnot2 : x ∉ l.take (k + 1) := by
          rw [ht]; simp only [List.mem_append, List.mem_singleton, not_or]
          exact ⟨hnot.out, fun h => e h.symm⟩
        obtain ⟨z, hz⟩ : ∃ z, l[k] = z := ⟨_, rfl⟩
        rw [hz] at hc e
        have e1 : (z == x) = false := by simp [e]
        have hnot3 : Hid (x ∉ l.take (k + 1)) := hnot2
        clear hz ht hnot2
        go_wp2
        go_round
        case rel => exact ⟨k + 1, by omega, by go_num, hnot3⟩
        case measure => simp [intOf]; omega
    · have hi0 : idxI l x = -1 := by
        have := hnot.out
        rw [List.take_of_length_le (by have := hn.out; omega)] at this
        rw [idxI, if_neg this]
      have hi : Hid (idxI l x = -1) := hi0
      clear hi0
      go_wp2
      go_ret
      exact ⟨by rw [hi.out]; rfl, rfl⟩

theorem equalInts (a a' : Option Addr) (n c c' B B' : Nat) (l : List Int) (w : World) (h : OwnI w B (.slice a n c) l) (h' : OwnI w B' (.slice a' n c') l) (hn : Hid (l.length = n)) (hl : n ≤ 65536) :
    Calls Try.prog 16 #[.slice a n c, .slice a' n c'] w fun e w' => e = .returned (.bool true) ∧ ∃ q, w' = w.drewN q := by
  go_enter Try.func16, Try.ntmps16
  go_wp2
  go_loopw [5] (fun v wx => ∃ k m : Nat, k ≤ n ∧ v = .int .i64 k ∧ wx = w.drewN m) (fun v _ => n - (intOf v).toNat)
  case atStart => exact ⟨0, 0, Nat.zero_le _, rfl, rfl⟩
  case round =>
    obtain ⟨k, m, hk, rfl, rfl⟩ := hrel
    by_cases hlt : k < n
    · have hkx : k < l.length := by have := hn.out; omega
      obtain ⟨g, rfl, hc⟩ := h.get hkx
      obtain ⟨g', rfl, hc'⟩ := h'.get hkx
      have i1 : (k : Int) < (n : Int) := by omega
      generalize l[k] = z at hc hc'
      go_wp2
      go_quiet (fail)
      go_wp2
      go_roundw
      case rel => exact ⟨k + 1, _, by omega, by go_num, rfl⟩
      case measure => simp [intOf]; omega
    · go_wp2
      go_ret
      exact ⟨rfl, _, rfl⟩
end Go.Proofs.Qxb6601382a
