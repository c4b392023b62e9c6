import Derived.Test.Qxb6601294aTake3
import Derived.OpenShut
namespace Go.Proofs.Qxb6601294a
open Go.RowKit

theorem law_lt (dID dSent start sent cr cs : Int) (ca : Bool) (k : Nat) (h1 : start + 10 ≤ dID) (h2 : sent ≤ dSent) (hk : k < 9)
    (hc : (k = 0 ∧ ca = false) ∨ (1 ≤ k ∧ ca = true ∧ cr = start + k - 1 ∧ cs = sent)) :
    itake dID dSent true cr cs ca k (start + k) sent = ⟨0, dID, dSent, start + k, sent, true, (k : Int) + 1⟩ := by
  have e1 : ftA dID dSent true (start + k) sent = 0 := by simp [ftA, show ¬ dID < start + k by omega, show ¬ dSent < sent by omega]
  have e2 : ftA cr cs ca (start + k) sent = 1 ∧ ftId cr cs ca (start + k) sent = start + k ∧ ftSent cr cs ca (start + k) sent = sent := by
    rcases hc with ⟨_, rfl⟩ | ⟨_, rfl, rfl, rfl⟩
    · simp [ftA, ftId, ftSent]
    · have h : start + (k : Int) - 1 < start + k := by omega
      simp [ftA, ftId, ftSent, h]
  unfold itake
  rw [e1, e2.1, e2.2.1, e2.2.2]
  simp [show ¬ dID ≤ start + k by omega, show (k : Int) < 9 by omega]

theorem law_nine (dID dSent start sent cr cs : Int) (ca : Bool) (h1 : start + 10 ≤ dID) (h2 : sent ≤ dSent)
    (hc : ca = true ∧ cr = start + 8 ∧ cs = sent) :
    itake dID dSent true cr cs ca 9 (start + 9) sent = ⟨3, start + 9, sent, 0, 0, false, 0⟩ := by
  obtain ⟨rfl, rfl, rfl⟩ := hc
  have e1 : ftA dID dSent true (start + 9) cs = 0 := by simp [ftA, show ¬ dID < start + 9 by omega, show ¬ dSent < cs by omega]
  have h : start + 8 < start + 9 := by omega
  unfold itake
  rw [e1]
  simp [ftA, ftId, ftSent, h, show ¬ dID ≤ start + 9 by omega]

set_option maxRecDepth 100000 in
set_option maxHeartbeats 1000000 in
theorem out_main (a0 a1 a2 a3 a4 : Int) (l2 : 0 ≤ a2) (u0 : a0 ≤ 18446744073709551615) (h10 : 10 ≤ a0) (hst : a2 ≤ a0 - 10) (hse : a3 ≤ a1) (w : World) :
    Calls Try.prog 9 #[.int .u64 a0, .int .i64 a1, .int .u64 a2, .int .i64 a3, .int .i64 a4] w fun e w' => e = .returned (.bool true) ∧ Below w.heap.size w w' := by
  go_enter Try.func9, Try.ntmps9
  go_wp2
  go_loopw [11, 12, 13, 14, 15, 16, 17, 18] (fun v11 v12 v13 v14 v15 v16 v17 v18 wr => Below w.heap.size w wr ∧ ∃ k : Nat, k ≤ 10 ∧ v18 = .int .i64 k ∧
      (k < 10 → ∃ (cr cs : Int) (ca : Bool), v11 = .int .u64 a0 ∧ v12 = .int .i64 a1 ∧ v13 = .bool true ∧ v14 = .int .u64 cr ∧ v15 = .int .i64 cs ∧ v16 = .bool ca ∧ v17 = .int .i64 k ∧
        ((k = 0 ∧ ca = false) ∨ (1 ≤ k ∧ ca = true ∧ cr = a2 + k - 1 ∧ cs = a3))))
    (fun _ _ _ _ _ _ _ v18 _ => 10 - (intOf v18).toNat)
  case atStart => exact ⟨Below.refl _ _, 0, by omega, rfl, fun _ => ⟨0, 0, false, rfl, rfl, rfl, rfl, rfl, rfl, rfl, Or.inl ⟨rfl, rfl⟩⟩⟩
  case round =>
    obtain ⟨hbel, k, hk, rfl, hcur⟩ := hrel
    by_cases hk10 : k < 10
    · obtain ⟨cr, cs, ca, rfl, rfl, rfl, rfl, rfl, rfl, rfl, hc⟩ := hcur hk10
      clear hcur
      have HC : Hid ((k = 0 ∧ ca = false) ∨ (1 ≤ k ∧ ca = true ∧ cr = a2 + k - 1 ∧ cs = a3)) := hc
      clear hc
      by_cases hk9 : k < 9
      · have hl := law_lt a0 a1 a2 a3 cr cs ca k (by omega) hse hk9 HC.out
        have HL : Hid (itake a0 a1 true cr cs ca k (a2 + k) a3 = ⟨0, a0, a1, a2 + k, a3, true, (k : Int) + 1⟩) := hl
        clear hl
        go_wp2_with fail
        refine (zz_any a0 a1 true cr cs ca k (a2 + k) a3 a4 _ (by omega) (by omega)).mono ?_
        rintro e w1 ⟨x, hx, rfl, hb1⟩
        rw [HL.out] at hx
        subst hx
        clear HL
        go_wp2
        go_roundw
        case rel => exact ⟨hbel.trans (hb1.mono hbel.size), k + 1, by omega, by go_num, fun _ => ⟨a2 + k, a3, true, rfl, rfl, rfl, rfl, rfl, rfl, by go_num, Or.inr ⟨by omega, rfl, by omega, rfl⟩⟩⟩
        case measure => simp [intOf]; omega
      · obtain rfl : k = 9 := by omega
        have hl := law_nine a0 a1 a2 a3 cr cs ca (by omega) hse (by
          rcases HC.out with ⟨h, _⟩ | ⟨_, h2, h3, h4⟩
          · omega
          · exact ⟨h2, by omega, h4⟩)
        have HL : Hid (itake a0 a1 true cr cs ca 9 (a2 + 9) a3 = ⟨3, a2 + 9, a3, 0, 0, false, 0⟩) := hl
        clear hl
        go_wp2_with fail
        refine (zz_any a0 a1 true cr cs ca 9 (a2 + 9) a3 a4 _ (by omega) (by omega)).mono ?_
        rintro e w1 ⟨x, hx, rfl, hb1⟩
        rw [HL.out] at hx
        subst hx
        clear HL
        go_wp2
        go_roundw
        case rel => exact ⟨hbel.trans (hb1.mono hbel.size), 10, by omega, by go_num, fun h => absurd h (by omega)⟩
        case measure => simp [intOf]
    · go_wp2
      go_ret
      exact ⟨rfl, hbel⟩
end Go.Proofs.Qxb6601294a
