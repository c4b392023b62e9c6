/-
  A PROOF OF 'Rows.FnIncarnationOutlastRunTakesOverSaid' ('example.com/heartgauge/heartgauge/zzlaws_root_b1.FnIncarnationOutlastRunTakesOver'), WRITTEN BY PROGRAM (proof-skeleton.mjs) off the guide's own print for that function. Not trusted: Lean checks it.
-/
import Derived.Test.Qxb6601294aRows
import Derived.WalkKit
import Derived.ProofKit
import Derived.OpenShut
import Derived.ShutString
import Derived.ChangeOld
import Derived.Below
import Derived.Test.Qxb6601294aOutWalk
import Derived.Test.Qxb6601294aHead
namespace Go.Proofs.Qxb6601294a.fnIncarnationOutlastRunTakesOver
open Go.ChangeShapes Go.WideShapes Go.ChangeAt Go.RowKit
open Go.ChangeMaps (open_string shut_string)
set_option linter.unusedVariables false      -- a walk need not use every 'w<i>' (that an integer argument fits its kind)

theorem own : ownKnob Try.prog.godebug = none := by kernel_rfl

/-! ### THE WALK -/
theorem walk (a0 : Int) (a1 : Int) (a2 : Int) (a3 : Int) (a4 : Int) (w0 : (Lit.int .u64 a0).wf = true) (w2 : (Lit.int .u64 a2).wf = true) (w : World) :
    Calls Try.prog 9 #[.int .u64 a0, .int .i64 a1, .int .u64 a2, .int .i64 a3, .int .i64 a4] w fun e w' => e = .returned (.bool true) ∧ Below w.heap.size w w' := by
  have b0 := bounds_u64 w0
  have b2 := bounds_u64 w2
  obtain ⟨p0, q0⟩ := b0
  obtain ⟨p2, q2⟩ := b2
  clear w0 w2
  by_cases h10 : a0 < 10
  · go_enter Try.func9, Try.ntmps9
    go_wp2
    go_ret
    exact ⟨rfl, Below.refl _ _⟩
  · by_cases hst : a0 - 10 < a2
    · go_enter Try.func9, Try.ntmps9
      go_wp2
      go_ret
      exact ⟨rfl, Below.refl _ _⟩
    · by_cases hse : a1 < a3
      · go_enter Try.func9, Try.ntmps9
        go_wp2
        go_ret
        exact ⟨rfl, Below.refl _ _⟩
      · exact out_main a0 a1 a2 a3 a4 p2 q0 (by omega) (by omega) (by omega) w

/-! ### THE ROW's STEP: WRITTEN OUT -/
set_option maxRecDepth 100000 in
theorem lifted (os : Os) (started : os.Started) (H : Type) (enc : TypeId × Value → H) :
    ReturnsInHanded {} Try.checked os 9 .any (Rows.fnIncarnationOutlastRunTakesOverSpec.pre6 enc Try.prog Try.f9 Rows.fnIncarnationOutlastRunTakesOverRow.domain false) (Rows.fnIncarnationOutlastRunTakesOverSpec.post enc Try.prog Try.f9 false true false false) := by
  refine returnsInHanded_of_change (C := Try.checked) own started (by kernel_rfl) Try.func9
    (ChangeSpec.witness6 (enc := enc) (C := Try.checked) false ⟨#[], #[.int .u64 0, .int .i64 0, .int .u64 0, .int .i64 0, .int .i64 0], []⟩ 8 (by kernel_rfl) (by kernel_rfl) (by kernel_rfl) (by kernel_rfl)) ?_
  intro W base args ds gs before hval0 hW hcnd _
  have hval : ∀ (j : Nat) t v, Try.f9.params[j]? = some t → args[j]? = some v → Value.okWide Try.prog W .any base t v := hval0
  have hW' := hW
  obtain ⟨p, q, hA0, hV, rfl, hfz, hnd⟩ := hW
  have hA : DataW.TrodAll enc Try.prog W 0 (fun _ => true) true Try.f9.params.toList args.toList ds p := hA0
  rw [Try.params9] at hA hval
  obtain ⟨v0, vs0, d0, ds0, p0, q0, hargs, rfl, rfl, h0, r0⟩ := trodAll_cons hA
  obtain ⟨v1, vs1, d1, ds1, p1, q1, rfl, rfl, rfl, h1, r1⟩ := trodAll_cons r0
  obtain ⟨v2, vs2, d2, ds2, p2, q2, rfl, rfl, rfl, h2, r2⟩ := trodAll_cons r1
  obtain ⟨v3, vs3, d3, ds3, p3, q3, rfl, rfl, rfl, h3, r3⟩ := trodAll_cons r2
  obtain ⟨v4, vs4, d4, ds4, p4, q4, rfl, rfl, rfl, h4, r4⟩ := trodAll_cons r3
  obtain ⟨rfl, rfl, rfl⟩ := trodAll_nil r4
  obtain rfl : args = #[v0, v1, v2, v3, v4] := by cases args; simp_all
  obtain ⟨rfl, rfl⟩ := trodVars_none hV
  obtain ⟨a0, rfl, rfl, rfl, w0⟩ := open_int Try.underlying38 (hval 0 38 v0 rfl rfl) h0
  obtain ⟨a1, rfl, rfl, rfl, w1⟩ := open_int Try.underlying2 (hval 1 2 v1 rfl rfl) h1
  obtain ⟨a2, rfl, rfl, rfl, w2⟩ := open_int Try.underlying38 (hval 2 38 v2 rfl rfl) h2
  obtain ⟨a3, rfl, rfl, rfl, w3⟩ := open_int Try.underlying2 (hval 3 2 v3 rfl rfl) h3
  obtain ⟨a4, rfl, rfl, rfl, w4⟩ := open_int Try.underlying2 (hval 4 2 v4 rfl rfl) h4
  clear hA0 hval0
  simp only [List.append_nil] at hW'
  refine (walk a0 a1 a2 a3 a4 w0 w2 W).mono fun e W' ⟨he, bel⟩ => ?_
  subst he
  exact ⟨_, rfl, _, _, _, [], [], [], hW', trodAll_mk1 (shut_bool Try.underlying4 _), (trodAll_cons_mk (shut_int Try.underlying38 w0) (trodAll_cons_mk (shut_int Try.underlying2 w1) (trodAll_cons_mk (shut_int Try.underlying38 w2) (trodAll_cons_mk (shut_int Try.underlying2 w3) (trodAll_cons_mk (shut_int Try.underlying2 w4) trodAll_mk0))))), rfl, bel.frame _, fun h => by cases h⟩

theorem closed : joinedFacts Try.pinned.checked.prog 9 Try.f9 Rows.fnIncarnationOutlastRunTakesOverSpec Rows.fnIncarnationOutlastRunTakesOverRow = true := by
  unfold joinedFacts
  rw [head.mayEnter, head.liftsFinal, head.make]
  kernel_rfl

theorem over : Rows.fnIncarnationOutlastRunTakesOverRow.holds Try.pinned (OpenSpec.ofChange Rows.fnIncarnationOutlastRunTakesOverSpec) :=
  OpenClaim.holds_of_wide 9 Try.f9 rfl rfl rfl rfl rfl rfl rfl ⟨rfl, rfl, rfl, rfl, rfl⟩ rfl rfl rfl rfl rfl (by kernel_rfl) Try.func9 closed
    (of_decide_eq_true (by kernel_rfl)) (by unfold Func.isWrapper; first | (rw [if_pos (by decide +kernel)]; kernel_rfl) | (rw [if_neg (by decide +kernel)]; exact ⟨rfl, rfl⟩))
    (fun os started H enc _ => lifted os started H enc)

/-- ████ THE STATEMENT ████ -/
theorem proved : Rows.FnIncarnationOutlastRunTakesOverSaid :=
  over
#print axioms proved
end Go.Proofs.Qxb6601294a.fnIncarnationOutlastRunTakesOver
