import Derived.Test.Qxb6601294aTake
import Derived.BigQuiet
import Derived.Deep.QuietTactic
import Derived.Deep.RegionHeld3
import Derived.Deep.RegionWith
import Derived.Handy
namespace Go.Proofs.Qxb6601294a
open Go.RowKit

theorem Wrote.keep {b lo hi : Nat} {a w : World} (h : Wrote b lo hi a w) (hf : ∀ o, a.frozen? ⟨b, o, none⟩ = false) : ∀ o, w.frozen? ⟨b, o, none⟩ = false := fun o => (h.frozen o).trans (hf o)
/-- A cell of another block reads as it did. -/
theorem Wrote.far {b lo hi : Nat} {a w : World} (h : Wrote b lo hi a w) {k o : Nat} (hk : k < a.heap.size) (hn : k ≠ b) : w.cell? ⟨k, o, none⟩ = a.cell? ⟨k, o, none⟩ := World.cell?_of_block (w := a) (h.block k hk hn)

/-- The state behind the call of front.take in the world w.alloc(box).drew. -/
theorem behind {b lo : Nat} {w w1 : World} {x y z : Value} (hb : b < w.heap.size) (hf : ∀ o, w.frozen? ⟨b, o, none⟩ = false) (hw : Wrote b lo (lo + 3) (w.alloc (.cells #[x, y, z] 83)).drew w1) :
    b < w1.heap.size ∧ w.heap.size < w1.heap.size ∧ (∀ o, w1.frozen? ⟨b, o, none⟩ = false) ∧ Wrote b lo (lo + 3) w w1 ∧
    w1.cell? ⟨w.heap.size, 0, none⟩ = some x ∧ w1.cell? ⟨w.heap.size, 1, none⟩ = some y ∧ w1.cell? ⟨w.heap.size, 2, none⟩ = some z := by
  have hs := hw.size
  simp at hs
  have h0 : Wrote b lo (lo + 3) w w1 := (((Wrote.refl b lo (lo + 3) w).alloc hb _).drew).trans hw
  refine ⟨by omega, by omega, h0.keep hf, h0, ?_, ?_, ?_⟩
  all_goals (rw [hw.far (by simp) (by omega)]; simp [go_sem])

set_option maxHeartbeats 400000 in
theorem it_a (b : Nat) (did dsent : Int) (dany : Bool) (rid rsent : Int) (rany : Bool) (news hid hs hr : Int) (w : World)
    (hb : b < w.heap.size) (c0 : w.cell? ⟨b, 0, none⟩ = some (.int .u64 did)) (c1 : w.cell? ⟨b, 1, none⟩ = some (.int .i64 dsent)) (c2 : w.cell? ⟨b, 2, none⟩ = some (.bool dany))
    (c3 : w.cell? ⟨b, 3, none⟩ = some (.int .u64 rid)) (c4 : w.cell? ⟨b, 4, none⟩ = some (.int .i64 rsent)) (c5 : w.cell? ⟨b, 5, none⟩ = some (.bool rany)) (c6 : w.cell? ⟨b, 6, none⟩ = some (.int .i64 news))
    (hf : ∀ o, w.frozen? ⟨b, o, none⟩ = false) (hA : (ftA did dsent dany hid hs != 0) = true) :
    Calls Try.prog 43 #[.pointer (some ⟨b, 0, none⟩), .agg #[.int .u64 hid, .int .i64 hs, .int .i64 hr]] w fun e w' =>
      e = .returned (.int .u8 (ftA did dsent dany hid hs)) ∧ Wrote b 0 7 w w' ∧ w'.cell? ⟨b, 0, none⟩ = some (.int .u64 (ftId did dsent dany hid hs)) ∧
      w'.cell? ⟨b, 1, none⟩ = some (.int .i64 (ftSent did dsent dany hid hs)) ∧ w'.cell? ⟨b, 2, none⟩ = some (.bool true) ∧
      w'.cell? ⟨b, 3, none⟩ = some (.int .u64 0) ∧ w'.cell? ⟨b, 4, none⟩ = some (.int .i64 0) ∧ w'.cell? ⟨b, 5, none⟩ = some (.bool false) ∧ w'.cell? ⟨b, 6, none⟩ = some (.int .i64 0) := by
  go_enter Try.func43, Try.ntmps43
  go_wp2
  go_region_with (go_at_call 46; go_call (ft_any b 0 did dsent dany hid hs hr) as e w1 ⟨rfl, hw, d0, d1, d2⟩)
  obtain ⟨hb1, hz, hf1, h0, g0, g1, g2⟩ := behind hb hf hw
  have e3 : w1.cell? ⟨b, 3, none⟩ = some (.int .u64 rid) := (h0.cell 3 (by omega)).trans c3
  have e4 : w1.cell? ⟨b, 4, none⟩ = some (.int .i64 rsent) := (h0.cell 4 (by omega)).trans c4
  have e5 : w1.cell? ⟨b, 5, none⟩ = some (.bool rany) := (h0.cell 5 (by omega)).trans c5
  have e6 : w1.cell? ⟨b, 6, none⟩ = some (.int .i64 news) := (h0.cell 6 (by omega)).trans c6
  clear hw c0 c1 c2 c3 c4 c5 c6 hf
  simp only [Nat.zero_add] at d1 d2 h0
  go_wp2
  go_ret
  refine ⟨rfl, (((((h0.mono (Nat.le_refl _) (by omega)).setCell (by omega) (by omega) _).setCell (by omega) (by omega) _).setCell (by omega) (by omega) _).setCell (by omega) (by omega) _), ?_⟩
  refine ⟨?_, ?_, ?_, ?_, ?_, ?_, ?_⟩ <;> go_simp

theorem ft_zero {id sent : Int} {any : Bool} {hid hs : Int} (h : ftA id sent any hid hs = 0) : any = true ∧ hid ≤ id ∧ hs ≤ sent ∧ ftId id sent any hid hs = id ∧ ftSent id sent any hid hs = sent := by
  cases any
  · simp [ftA] at h
  · by_cases h1 : id < hid
    · simp [ftA, h1] at h
    · by_cases h2 : sent < hs
      · simp [ftA, h1, h2] at h
      · exact ⟨rfl, by omega, by omega, by simp [ftId, h1, h2], by simp [ftSent, h1, h2]⟩

set_option maxHeartbeats 400000 in
theorem it_b (b : Nat) (did dsent : Int) (dany : Bool) (rid rsent : Int) (rany : Bool) (news hid hs hr : Int) (w : World)
    (hb : b < w.heap.size) (c0 : w.cell? ⟨b, 0, none⟩ = some (.int .u64 did)) (c1 : w.cell? ⟨b, 1, none⟩ = some (.int .i64 dsent)) (c2 : w.cell? ⟨b, 2, none⟩ = some (.bool dany))
    (c3 : w.cell? ⟨b, 3, none⟩ = some (.int .u64 rid)) (c4 : w.cell? ⟨b, 4, none⟩ = some (.int .i64 rsent)) (c5 : w.cell? ⟨b, 5, none⟩ = some (.bool rany)) (c6 : w.cell? ⟨b, 6, none⟩ = some (.int .i64 news))
    (hf : ∀ o, w.frozen? ⟨b, o, none⟩ = false) (HA : Hid (ftA did dsent dany hid hs = 0)) (hge : did ≤ hid) :
    Calls Try.prog 43 #[.pointer (some ⟨b, 0, none⟩), .agg #[.int .u64 hid, .int .i64 hs, .int .i64 hr]] w fun e w' =>
      e = .returned (.int .u8 0) ∧ Wrote b 0 7 w w' ∧ w'.cell? ⟨b, 0, none⟩ = some (.int .u64 did) ∧
      w'.cell? ⟨b, 1, none⟩ = some (.int .i64 dsent) ∧ w'.cell? ⟨b, 2, none⟩ = some (.bool true) ∧
      w'.cell? ⟨b, 3, none⟩ = some (.int .u64 rid) ∧ w'.cell? ⟨b, 4, none⟩ = some (.int .i64 rsent) ∧ w'.cell? ⟨b, 5, none⟩ = some (.bool rany) ∧ w'.cell? ⟨b, 6, none⟩ = some (.int .i64 news) := by
  go_enter Try.func43, Try.ntmps43
  go_wp2
  go_region_with (go_at_call 46; go_call (ft_any b 0 did dsent dany hid hs hr) as e w1 ⟨rfl, hw, d0, d1, d2⟩)
  obtain ⟨hb1, hz, hf1, h0, g0, g1, g2⟩ := behind hb hf hw
  have e3 : w1.cell? ⟨b, 3, none⟩ = some (.int .u64 rid) := (h0.cell 3 (by omega)).trans c3
  have e4 : w1.cell? ⟨b, 4, none⟩ = some (.int .i64 rsent) := (h0.cell 4 (by omega)).trans c4
  have e5 : w1.cell? ⟨b, 5, none⟩ = some (.bool rany) := (h0.cell 5 (by omega)).trans c5
  have e6 : w1.cell? ⟨b, 6, none⟩ = some (.int .i64 news) := (h0.cell 6 (by omega)).trans c6
  clear hw c0 c1 c2 c3 c4 c5 c6 hf
  obtain ⟨_, k1, k2, k3, k4⟩ := ft_zero HA.out
  simp only [Nat.zero_add, k3, k4] at d0 d1 d2 h0
  rw [HA.out]
  clear k3 k4
  go_wp2
  go_region
  go_wp2
  go_ret
  exact ⟨rfl, (h0.mono (Nat.le_refl _) (by omega)).drew, d0, d1, d2, e3, e4, e5, e6⟩

set_option maxHeartbeats 800000 in
theorem it_c1 (b : Nat) (did dsent : Int) (dany : Bool) (rid rsent : Int) (rany : Bool) (news hid hs hr : Int) (w : World)
    (hb : b < w.heap.size) (c0 : w.cell? ⟨b, 0, none⟩ = some (.int .u64 did)) (c1 : w.cell? ⟨b, 1, none⟩ = some (.int .i64 dsent)) (c2 : w.cell? ⟨b, 2, none⟩ = some (.bool dany))
    (c3 : w.cell? ⟨b, 3, none⟩ = some (.int .u64 rid)) (c4 : w.cell? ⟨b, 4, none⟩ = some (.int .i64 rsent)) (c5 : w.cell? ⟨b, 5, none⟩ = some (.bool rany)) (c6 : w.cell? ⟨b, 6, none⟩ = some (.int .i64 news))
    (hf : ∀ o, w.frozen? ⟨b, o, none⟩ = false) (HA : Hid (ftA did dsent dany hid hs = 0)) (hlt : hid < did) (n0 : 0 ≤ news) (n9 : news ≤ 9)
    (hR : (ftA rid rsent rany hid hs != 0) = true) (hn : news < 9) :
    Calls Try.prog 43 #[.pointer (some ⟨b, 0, none⟩), .agg #[.int .u64 hid, .int .i64 hs, .int .i64 hr]] w fun e w' =>
      e = .returned (.int .u8 0) ∧ Wrote b 0 7 w w' ∧ w'.cell? ⟨b, 0, none⟩ = some (.int .u64 did) ∧ w'.cell? ⟨b, 1, none⟩ = some (.int .i64 dsent) ∧ w'.cell? ⟨b, 2, none⟩ = some (.bool true) ∧
      w'.cell? ⟨b, 3, none⟩ = some (.int .u64 (ftId rid rsent rany hid hs)) ∧ w'.cell? ⟨b, 4, none⟩ = some (.int .i64 (ftSent rid rsent rany hid hs)) ∧ w'.cell? ⟨b, 5, none⟩ = some (.bool true) ∧ w'.cell? ⟨b, 6, none⟩ = some (.int .i64 (news + 1)) := by
  go_enter Try.func43, Try.ntmps43
  go_wp2
  go_region_with (go_at_call 46; go_call (ft_any b 0 did dsent dany hid hs hr) as e w1 ⟨rfl, hw, d0, d1, d2⟩)
  obtain ⟨hb1, hz, hf1, h0, g0, g1, g2⟩ := behind hb hf hw
  have e3 : w1.cell? ⟨b, 3, none⟩ = some (.int .u64 rid) := (h0.cell 3 (by omega)).trans c3
  have e4 : w1.cell? ⟨b, 4, none⟩ = some (.int .i64 rsent) := (h0.cell 4 (by omega)).trans c4
  have e5 : w1.cell? ⟨b, 5, none⟩ = some (.bool rany) := (h0.cell 5 (by omega)).trans c5
  have e6 : w1.cell? ⟨b, 6, none⟩ = some (.int .i64 news) := (h0.cell 6 (by omega)).trans c6
  clear hw c0 c1 c2 c3 c4 c5 c6 hf
  obtain ⟨_, k1, k2, k3, k4⟩ := ft_zero HA.out
  simp only [Nat.zero_add, k3, k4] at d0 d1 d2 h0
  rw [HA.out]
  clear k3 k4
  have hbn : b ≠ w.heap.size := by omega
  go_wp2
  go_region
  go_wp2
  go_region_with (go_at_call 46; go_call (ft_any b 3 rid rsent rany hid hs hr) as e w2 ⟨rfl, hw2, q3, q4, q5⟩)
  have hz2 := hw2.size
  simp at hz2
  have hb2 : b < w2.heap.size := by omega
  have hf2 : ∀ o, w2.frozen? ⟨b, o, none⟩ = false := fun o => (hw2.frozen o).trans (hf1 o)
  have hcc : ∀ o, (o < 3 ∨ 3 + 3 ≤ o) → w2.cell? ⟨b, o, none⟩ = w1.cell? ⟨b, o, none⟩ := fun o ho => hw2.cell o ho
  have p0 : w2.cell? ⟨b, 0, none⟩ = some (.int .u64 did) := (hcc 0 (by omega)).trans d0
  have p1 : w2.cell? ⟨b, 1, none⟩ = some (.int .i64 dsent) := (hcc 1 (by omega)).trans d1
  have p2 : w2.cell? ⟨b, 2, none⟩ = some (.bool true) := (hcc 2 (by omega)).trans d2
  have p6 : w2.cell? ⟨b, 6, none⟩ = some (.int .i64 news) := (hcc 6 (by omega)).trans e6
  have h2 : Wrote b 0 7 w w2 := (((h0.mono (Nat.le_refl _) (by omega)).drew).drew).trans (hw2.mono (by omega) (by omega))
  clear hw2 hcc d0 d1 d2 e3 e4 e5 e6 g0 g1 g2 hf1 h0
  simp only [Nat.reduceAdd] at q3 q4 q5
  go_wp2
  go_ret
  refine ⟨rfl, h2.setCell (by omega) (by omega) _, ?_, ?_, ?_, ?_, ?_, ?_, ?_⟩ <;> go_simp

set_option maxHeartbeats 800000 in
theorem it_c2 (b : Nat) (did dsent : Int) (dany : Bool) (rid rsent : Int) (rany : Bool) (news hid hs hr : Int) (w : World)
    (hb : b < w.heap.size) (c0 : w.cell? ⟨b, 0, none⟩ = some (.int .u64 did)) (c1 : w.cell? ⟨b, 1, none⟩ = some (.int .i64 dsent)) (c2 : w.cell? ⟨b, 2, none⟩ = some (.bool dany))
    (c3 : w.cell? ⟨b, 3, none⟩ = some (.int .u64 rid)) (c4 : w.cell? ⟨b, 4, none⟩ = some (.int .i64 rsent)) (c5 : w.cell? ⟨b, 5, none⟩ = some (.bool rany)) (c6 : w.cell? ⟨b, 6, none⟩ = some (.int .i64 news))
    (hf : ∀ o, w.frozen? ⟨b, o, none⟩ = false) (HA : Hid (ftA did dsent dany hid hs = 0)) (hlt : hid < did) (n0 : 0 ≤ news) (n9 : news ≤ 9)
    (hR : (ftA rid rsent rany hid hs != 0) = true) (hn : 9 ≤ news) :
    Calls Try.prog 43 #[.pointer (some ⟨b, 0, none⟩), .agg #[.int .u64 hid, .int .i64 hs, .int .i64 hr]] w fun e w' =>
      e = .returned (.int .u8 3) ∧ Wrote b 0 7 w w' ∧ w'.cell? ⟨b, 0, none⟩ = some (.int .u64 (ftId rid rsent rany hid hs)) ∧ w'.cell? ⟨b, 1, none⟩ = some (.int .i64 (ftSent rid rsent rany hid hs)) ∧ w'.cell? ⟨b, 2, none⟩ = some (.bool true) ∧
      w'.cell? ⟨b, 3, none⟩ = some (.int .u64 0) ∧ w'.cell? ⟨b, 4, none⟩ = some (.int .i64 0) ∧ w'.cell? ⟨b, 5, none⟩ = some (.bool false) ∧ w'.cell? ⟨b, 6, none⟩ = some (.int .i64 0) := by
  go_enter Try.func43, Try.ntmps43
  go_wp2
  go_region_with (go_at_call 46; go_call (ft_any b 0 did dsent dany hid hs hr) as e w1 ⟨rfl, hw, d0, d1, d2⟩)
  obtain ⟨hb1, hz, hf1, h0, g0, g1, g2⟩ := behind hb hf hw
  have e3 : w1.cell? ⟨b, 3, none⟩ = some (.int .u64 rid) := (h0.cell 3 (by omega)).trans c3
  have e4 : w1.cell? ⟨b, 4, none⟩ = some (.int .i64 rsent) := (h0.cell 4 (by omega)).trans c4
  have e5 : w1.cell? ⟨b, 5, none⟩ = some (.bool rany) := (h0.cell 5 (by omega)).trans c5
  have e6 : w1.cell? ⟨b, 6, none⟩ = some (.int .i64 news) := (h0.cell 6 (by omega)).trans c6
  clear hw c0 c1 c2 c3 c4 c5 c6 hf
  obtain ⟨_, k1, k2, k3, k4⟩ := ft_zero HA.out
  simp only [Nat.zero_add, k3, k4] at d0 d1 d2 h0
  rw [HA.out]
  clear k3 k4
  have hbn : b ≠ w.heap.size := by omega
  go_wp2
  go_region
  go_wp2
  go_region_with (go_at_call 46; go_call (ft_any b 3 rid rsent rany hid hs hr) as e w2 ⟨rfl, hw2, q3, q4, q5⟩)
  have hz2 := hw2.size
  simp at hz2
  have hb2 : b < w2.heap.size := by omega
  have hf2 : ∀ o, w2.frozen? ⟨b, o, none⟩ = false := fun o => (hw2.frozen o).trans (hf1 o)
  have hcc : ∀ o, (o < 3 ∨ 3 + 3 ≤ o) → w2.cell? ⟨b, o, none⟩ = w1.cell? ⟨b, o, none⟩ := fun o ho => hw2.cell o ho
  have p0 : w2.cell? ⟨b, 0, none⟩ = some (.int .u64 did) := (hcc 0 (by omega)).trans d0
  have p1 : w2.cell? ⟨b, 1, none⟩ = some (.int .i64 dsent) := (hcc 1 (by omega)).trans d1
  have p2 : w2.cell? ⟨b, 2, none⟩ = some (.bool true) := (hcc 2 (by omega)).trans d2
  have p6 : w2.cell? ⟨b, 6, none⟩ = some (.int .i64 news) := (hcc 6 (by omega)).trans e6
  have h2 : Wrote b 0 7 w w2 := (((h0.mono (Nat.le_refl _) (by omega)).drew).drew).trans (hw2.mono (by omega) (by omega))
  clear hw2 hcc d0 d1 d2 e3 e4 e5 e6 g0 g1 g2 hf1 h0
  simp only [Nat.reduceAdd] at q3 q4 q5
  go_wp2
  go_ret
  refine ⟨rfl, ?_, ?_, ?_, ?_, ?_, ?_, ?_, ?_⟩
  · repeat (with_reducible refine Wrote.setCell ?_ (by omega) (by omega) _)
    with_reducible exact h2
  all_goals go_simp

set_option maxHeartbeats 800000 in
theorem it_c3 (b : Nat) (did dsent : Int) (dany : Bool) (rid rsent : Int) (rany : Bool) (news hid hs hr : Int) (w : World)
    (hb : b < w.heap.size) (c0 : w.cell? ⟨b, 0, none⟩ = some (.int .u64 did)) (c1 : w.cell? ⟨b, 1, none⟩ = some (.int .i64 dsent)) (c2 : w.cell? ⟨b, 2, none⟩ = some (.bool dany))
    (c3 : w.cell? ⟨b, 3, none⟩ = some (.int .u64 rid)) (c4 : w.cell? ⟨b, 4, none⟩ = some (.int .i64 rsent)) (c5 : w.cell? ⟨b, 5, none⟩ = some (.bool rany)) (c6 : w.cell? ⟨b, 6, none⟩ = some (.int .i64 news))
    (hf : ∀ o, w.frozen? ⟨b, o, none⟩ = false) (HA : Hid (ftA did dsent dany hid hs = 0)) (hlt : hid < did) (n0 : 0 ≤ news) (n9 : news ≤ 9)
    (HR : Hid (ftA rid rsent rany hid hs = 0)) :
    Calls Try.prog 43 #[.pointer (some ⟨b, 0, none⟩), .agg #[.int .u64 hid, .int .i64 hs, .int .i64 hr]] w fun e w' =>
      e = .returned (.int .u8 0) ∧ Wrote b 0 7 w w' ∧ w'.cell? ⟨b, 0, none⟩ = some (.int .u64 did) ∧ w'.cell? ⟨b, 1, none⟩ = some (.int .i64 dsent) ∧ w'.cell? ⟨b, 2, none⟩ = some (.bool true) ∧
      w'.cell? ⟨b, 3, none⟩ = some (.int .u64 rid) ∧ w'.cell? ⟨b, 4, none⟩ = some (.int .i64 rsent) ∧ w'.cell? ⟨b, 5, none⟩ = some (.bool true) ∧ w'.cell? ⟨b, 6, none⟩ = some (.int .i64 news) := by
  go_enter Try.func43, Try.ntmps43
  go_wp2
  go_region_with (go_at_call 46; go_call (ft_any b 0 did dsent dany hid hs hr) as e w1 ⟨rfl, hw, d0, d1, d2⟩)
  obtain ⟨hb1, hz, hf1, h0, g0, g1, g2⟩ := behind hb hf hw
  have e3 : w1.cell? ⟨b, 3, none⟩ = some (.int .u64 rid) := (h0.cell 3 (by omega)).trans c3
  have e4 : w1.cell? ⟨b, 4, none⟩ = some (.int .i64 rsent) := (h0.cell 4 (by omega)).trans c4
  have e5 : w1.cell? ⟨b, 5, none⟩ = some (.bool rany) := (h0.cell 5 (by omega)).trans c5
  have e6 : w1.cell? ⟨b, 6, none⟩ = some (.int .i64 news) := (h0.cell 6 (by omega)).trans c6
  clear hw c0 c1 c2 c3 c4 c5 c6 hf
  obtain ⟨_, k1, k2, k3, k4⟩ := ft_zero HA.out
  simp only [Nat.zero_add, k3, k4] at d0 d1 d2 h0
  rw [HA.out]
  clear k3 k4
  have hbn : b ≠ w.heap.size := by omega
  go_wp2
  go_region
  go_wp2
  go_region_with (go_at_call 46; go_call (ft_any b 3 rid rsent rany hid hs hr) as e w2 ⟨rfl, hw2, q3, q4, q5⟩)
  have hz2 := hw2.size
  simp at hz2
  have hb2 : b < w2.heap.size := by omega
  have hf2 : ∀ o, w2.frozen? ⟨b, o, none⟩ = false := fun o => (hw2.frozen o).trans (hf1 o)
  have hcc : ∀ o, (o < 3 ∨ 3 + 3 ≤ o) → w2.cell? ⟨b, o, none⟩ = w1.cell? ⟨b, o, none⟩ := fun o ho => hw2.cell o ho
  have p0 : w2.cell? ⟨b, 0, none⟩ = some (.int .u64 did) := (hcc 0 (by omega)).trans d0
  have p1 : w2.cell? ⟨b, 1, none⟩ = some (.int .i64 dsent) := (hcc 1 (by omega)).trans d1
  have p2 : w2.cell? ⟨b, 2, none⟩ = some (.bool true) := (hcc 2 (by omega)).trans d2
  have p6 : w2.cell? ⟨b, 6, none⟩ = some (.int .i64 news) := (hcc 6 (by omega)).trans e6
  have h2 : Wrote b 0 7 w w2 := (((h0.mono (Nat.le_refl _) (by omega)).drew).drew).trans (hw2.mono (by omega) (by omega))
  clear hw2 hcc d0 d1 d2 e3 e4 e5 e6 g0 g1 g2 hf1 h0
  simp only [Nat.reduceAdd] at q3 q4 q5
  obtain ⟨_, k1, k2, k3, k4⟩ := ft_zero HR.out
  simp only [k3, k4] at q3 q4
  rw [HR.out]
  clear k3 k4
  go_wp2
  go_ret
  exact ⟨rfl, h2, p0, p1, p2, q3, q4, q5, p6⟩

end Go.Proofs.Qxb6601294a
