import Derived.Test.Qxb6601294aTake2
namespace Go.Proofs.Qxb6601294a
open Go.RowKit

/-- The state of an incarnation behind one take, and the answer. -/
structure Inc where
  a : Int
  did : Int
  dsent : Int
  rid : Int
  rsent : Int
  rany : Bool
  news : Int

/-- What (*incarnation).take does, while 0 ≤ news ≤ 9. -/
def itake (did dsent : Int) (dany : Bool) (rid rsent : Int) (rany : Bool) (news hid hs : Int) : Inc :=
  if ftA did dsent dany hid hs ≠ 0 then ⟨ftA did dsent dany hid hs, ftId did dsent dany hid hs, ftSent did dsent dany hid hs, 0, 0, false, 0⟩
  else if did ≤ hid then ⟨0, did, dsent, rid, rsent, rany, news⟩
  else if ftA rid rsent rany hid hs = 0 then ⟨0, did, dsent, rid, rsent, true, news⟩
  else if news < 9 then ⟨0, did, dsent, ftId rid rsent rany hid hs, ftSent rid rsent rany hid hs, true, news + 1⟩
  else ⟨3, ftId rid rsent rany hid hs, ftSent rid rsent rany hid hs, 0, 0, false, 0⟩

theorem it_any (b : Nat) (did dsent : Int) (dany : Bool) (rid rsent : Int) (rany : Bool) (news hid hs hr : Int) (w : World)
    (hb : b < w.heap.size) (c0 : w.cell? ⟨b, 0, none⟩ = some (.int .u64 did)) (c1 : w.cell? ⟨b, 1, none⟩ = some (.int .i64 dsent)) (c2 : w.cell? ⟨b, 2, none⟩ = some (.bool dany))
    (c3 : w.cell? ⟨b, 3, none⟩ = some (.int .u64 rid)) (c4 : w.cell? ⟨b, 4, none⟩ = some (.int .i64 rsent)) (c5 : w.cell? ⟨b, 5, none⟩ = some (.bool rany)) (c6 : w.cell? ⟨b, 6, none⟩ = some (.int .i64 news))
    (hf : ∀ o, w.frozen? ⟨b, o, none⟩ = false) (n0 : 0 ≤ news) (n9 : news ≤ 9) :
    Calls Try.prog 43 #[.pointer (some ⟨b, 0, none⟩), .agg #[.int .u64 hid, .int .i64 hs, .int .i64 hr]] w fun e w' =>
      ∃ x : Inc, itake did dsent dany rid rsent rany news hid hs = x ∧ e = .returned (.int .u8 x.a) ∧ Wrote b 0 7 w w' ∧ w'.cell? ⟨b, 0, none⟩ = some (.int .u64 x.did) ∧
      w'.cell? ⟨b, 1, none⟩ = some (.int .i64 x.dsent) ∧ w'.cell? ⟨b, 2, none⟩ = some (.bool true) ∧
      w'.cell? ⟨b, 3, none⟩ = some (.int .u64 x.rid) ∧ w'.cell? ⟨b, 4, none⟩ = some (.int .i64 x.rsent) ∧ w'.cell? ⟨b, 5, none⟩ = some (.bool x.rany) ∧ w'.cell? ⟨b, 6, none⟩ = some (.int .i64 x.news) := by
  unfold itake
  by_cases h1 : ftA did dsent dany hid hs ≠ 0
  · refine (it_a b did dsent dany rid rsent rany news hid hs hr w hb c0 c1 c2 c3 c4 c5 c6 hf (by simpa using h1)).mono ?_
    rintro e w' ⟨he, h⟩
    exact ⟨_, rfl, by rw [if_pos h1]; exact ⟨he, h⟩⟩
  · have h1' : ftA did dsent dany hid hs = 0 := by omega
    by_cases h2 : did ≤ hid
    · refine (it_b b did dsent dany rid rsent rany news hid hs hr w hb c0 c1 c2 c3 c4 c5 c6 hf h1' h2).mono ?_
      rintro e w' ⟨he, h⟩
      exact ⟨_, rfl, by rw [if_neg h1, if_pos h2]; exact ⟨he, h⟩⟩
    · by_cases h3 : ftA rid rsent rany hid hs = 0
      · refine (it_c3 b did dsent dany rid rsent rany news hid hs hr w hb c0 c1 c2 c3 c4 c5 c6 hf h1' (by omega) n0 n9 h3).mono ?_
        rintro e w' ⟨he, h⟩
        exact ⟨_, rfl, by rw [if_neg h1, if_neg h2, if_pos h3]; exact ⟨he, h⟩⟩
      · by_cases h4 : news < 9
        · refine (it_c1 b did dsent dany rid rsent rany news hid hs hr w hb c0 c1 c2 c3 c4 c5 c6 hf h1' (by omega) n0 n9 (by simpa using h3) h4).mono ?_
          rintro e w' ⟨he, h⟩
          exact ⟨_, rfl, by rw [if_neg h1, if_neg h2, if_neg h3, if_pos h4]; exact ⟨he, h⟩⟩
        · refine (it_c2 b did dsent dany rid rsent rany news hid hs hr w hb c0 c1 c2 c3 c4 c5 c6 hf h1' (by omega) n0 n9 (by simpa using h3) (by omega)).mono ?_
          rintro e w' ⟨he, h⟩
          exact ⟨_, rfl, by rw [if_neg h1, if_neg h2, if_neg h3, if_neg h4]; exact ⟨he, h⟩⟩

theorem below_wrote {w w1 : World} {o : Obj} {lo hi : Nat} (hw : Wrote w.heap.size lo hi (w.alloc o) w1) (n : Nat) : Below w.heap.size w (w1.drewN n) := by
  have hs := hw.size
  simp at hs
  refine Below.trans ((Below.refl _ _).alloc (Nat.le_refl _) o) ⟨hw.os, hw.tape, hw.output, hw.size, fun k hk => hw.block k (by simp; omega) (by omega)⟩

set_option maxHeartbeats 400000 in
theorem zz_any (did dsent : Int) (dany : Bool) (rid rsent : Int) (rany : Bool) (news hid hs hr : Int) (w : World) (n0 : 0 ≤ news) (n9 : news ≤ 9) :
    Calls Try.prog 30 #[.int .u64 did, .int .i64 dsent, .bool dany, .int .u64 rid, .int .i64 rsent, .bool rany, .int .i64 news, .int .u64 hid, .int .i64 hs, .int .i64 hr] w fun e w' =>
      ∃ x : Inc, itake did dsent dany rid rsent rany news hid hs = x ∧
        e = .returned (.tuple #[.int .u8 x.a, .int .u64 x.did, .int .i64 x.dsent, .bool true, .int .u64 x.rid, .int .i64 x.rsent, .bool x.rany, .int .i64 x.news]) ∧ Below w.heap.size w w' := by
  go_enter Try.func30, Try.ntmps30
  go_wp2_with (go_at_call 43; go_call (it_any w.heap.size did dsent dany rid rsent rany news hid hs hr) as e w1 ⟨x, hx, rfl, hw, c0, c1, c2, c3, c4, c5, c6⟩)
  have HX : Hid (itake did dsent dany rid rsent rany news hid hs = x) := hx
  clear hx
  go_quiet (fail)
  go_wp2
  go_returns
  exact ⟨x, HX.out, rfl, below_wrote hw nq⟩
end Go.Proofs.Qxb6601294a
