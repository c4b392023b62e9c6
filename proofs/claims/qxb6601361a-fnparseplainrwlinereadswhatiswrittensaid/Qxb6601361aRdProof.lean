/-
  A PROOF OF 'Rows.FnParsePlainRWLineReadsWhatIsWrittenSaid' ('example.com/tracewright/tracewright/zzlaws_pkg_history_b1.FnParsePlainRWLineReadsWhatIsWritten'), WRITTEN BY PROGRAM (proof-skeleton.mjs) off the guide's own print for that function. Not trusted: Lean checks it.
-/
import Derived.Test.Qxb6601361aRows
import Derived.WalkKit
import Derived.ProofKit
import Derived.OpenShut
import Derived.ShutString
import Derived.ChangeOld
import Derived.Below
import Derived.Test.Qxb6601361aRdEarly
import Derived.Test.Qxb6601361aHead
namespace Go.Proofs.Qxb6601361a.fnParsePlainRWLineReadsWhatIsWritten
open Go.ChangeShapes Go.WideShapes Go.ChangeAt Go.RowKit
open Go.ChangeMaps (open_string shut_string)
set_option linter.unusedVariables false      -- a walk need not use every 'w<i>' (that an integer argument fits its kind)

theorem own : ownKnob Try.prog.godebug = none := by kernel_rfl

/-! ### THE WALK -/
theorem walk (wr : Bool) (a b c d : Int) (w : World) :
    Calls Try.prog 6 #[.bool wr, .int .i64 a, .int .i64 b, .int .i64 c, .int .i64 d] w fun e w' => e = .returned (.bool true) ∧ Below w.heap.size w w' := by
  by_cases ha : 0 ≤ a ∧ a ≤ 999999999999999999
  · by_cases hb : 0 ≤ b ∧ b ≤ 999999999999999999
    · by_cases hc : 0 ≤ c ∧ c ≤ 999999999999999999
      · by_cases hd : 0 ≤ d ∧ d ≤ 999999999999999999
        · cases wr
          · exact rd_read a b c d w ha.1 ha.2 hb.1 hb.2 hc.1 hc.2 hd.1 hd.2
          · by_cases h0 : b = 0
            · exact rd_w0 a b c d w ha.1 ha.2 hb.1 hb.2 hc.1 hc.2 hd.1 hd.2 (by simpa using h0)
            · exact rd_w a b c d w ha.1 ha.2 hb.1 hb.2 hc.1 hc.2 hd.1 hd.2 (by simpa using h0)
        · cases wr
          · exact no_d a b c d w ha hb hc hd
          · by_cases h1 : d = -1
            · subst h1
              by_cases h0 : b = 0
              · exact rd_n0 a b c w ha.1 ha.2 hb.1 hb.2 hc.1 hc.2 (by simpa using h0)
              · exact rd_n a b c w ha.1 ha.2 hb.1 hb.2 hc.1 hc.2 (by simpa using h0)
            · exact no_d1 a b c d w ha hb hc hd (by simpa using h1)
      · exact no_c wr a b c d w ha hb hc
    · exact no_b wr a b c d w ha hb
  · exact no_a wr a b c d w ha

/-! ### THE ROW's STEP: WRITTEN OUT -/
set_option maxRecDepth 100000 in
theorem lifted (os : Os) (started : os.Started) (H : Type) (enc : TypeId × Value → H) :
    ReturnsInHanded {} Try.checked os 6 .any (Rows.fnParsePlainRWLineReadsWhatIsWrittenSpec.pre6 enc Try.prog Try.f6 Rows.fnParsePlainRWLineReadsWhatIsWrittenRow.domain false) (Rows.fnParsePlainRWLineReadsWhatIsWrittenSpec.post enc Try.prog Try.f6 false true false false) := by
  refine returnsInHanded_of_change (C := Try.checked) own started (by kernel_rfl) Try.func6
    (ChangeSpec.witness6 (enc := enc) (C := Try.checked) false ⟨#[], #[.bool false, .int .i64 0, .int .i64 0, .int .i64 0, .int .i64 0], []⟩ 8 (by kernel_rfl) (by kernel_rfl) (by kernel_rfl) (by kernel_rfl)) ?_
  intro W base args ds gs before hval0 hW hcnd _
  have hval : ∀ (j : Nat) t v, Try.f6.params[j]? = some t → args[j]? = some v → Value.okWide Try.prog W .any base t v := hval0
  have hW' := hW
  obtain ⟨p, q, hA0, hV, rfl, hfz, hnd⟩ := hW
  have hA : DataW.TrodAll enc Try.prog W 0 (fun _ => true) true Try.f6.params.toList args.toList ds p := hA0
  rw [Try.params6] at hA hval
  obtain ⟨v0, vs0, d0, ds0, p0, q0, hargs, rfl, rfl, h0, r0⟩ := trodAll_cons hA
  obtain ⟨v1, vs1, d1, ds1, p1, q1, rfl, rfl, rfl, h1, r1⟩ := trodAll_cons r0
  obtain ⟨v2, vs2, d2, ds2, p2, q2, rfl, rfl, rfl, h2, r2⟩ := trodAll_cons r1
  obtain ⟨v3, vs3, d3, ds3, p3, q3, rfl, rfl, rfl, h3, r3⟩ := trodAll_cons r2
  obtain ⟨v4, vs4, d4, ds4, p4, q4, rfl, rfl, rfl, h4, r4⟩ := trodAll_cons r3
  obtain ⟨rfl, rfl, rfl⟩ := trodAll_nil r4
  obtain rfl : args = #[v0, v1, v2, v3, v4] := by cases args; simp_all
  obtain ⟨rfl, rfl⟩ := trodVars_none hV
  obtain ⟨a0, rfl, rfl, rfl⟩ := open_bool Try.underlying4 (hval 0 4 v0 rfl rfl) h0
  obtain ⟨a1, rfl, rfl, rfl, w1⟩ := open_int Try.underlying2 (hval 1 2 v1 rfl rfl) h1
  obtain ⟨a2, rfl, rfl, rfl, w2⟩ := open_int Try.underlying2 (hval 2 2 v2 rfl rfl) h2
  obtain ⟨a3, rfl, rfl, rfl, w3⟩ := open_int Try.underlying2 (hval 3 2 v3 rfl rfl) h3
  obtain ⟨a4, rfl, rfl, rfl, w4⟩ := open_int Try.underlying2 (hval 4 2 v4 rfl rfl) h4
  clear hA0 hval0
  simp only [List.append_nil] at hW'
  refine (walk a0 a1 a2 a3 a4 W).mono fun e W' ⟨he, bel⟩ => ?_
  subst he
  exact ⟨_, rfl, _, _, _, [], [], [], hW', trodAll_mk1 (shut_bool Try.underlying4 _), (trodAll_cons_mk (shut_bool Try.underlying4 _) (trodAll_cons_mk (shut_int Try.underlying2 w1) (trodAll_cons_mk (shut_int Try.underlying2 w2) (trodAll_cons_mk (shut_int Try.underlying2 w3) (trodAll_cons_mk (shut_int Try.underlying2 w4) trodAll_mk0))))), rfl, bel.frame _, fun h => by cases h⟩

theorem closed : joinedFacts Try.pinned.checked.prog 6 Try.f6 Rows.fnParsePlainRWLineReadsWhatIsWrittenSpec Rows.fnParsePlainRWLineReadsWhatIsWrittenRow = true := by
  unfold joinedFacts
  rw [head.mayEnter, head.liftsFinal, head.make]
  kernel_rfl

theorem over : Rows.fnParsePlainRWLineReadsWhatIsWrittenRow.holds Try.pinned (OpenSpec.ofChange Rows.fnParsePlainRWLineReadsWhatIsWrittenSpec) :=
  OpenClaim.holds_of_wide 6 Try.f6 rfl rfl rfl rfl rfl rfl rfl ⟨rfl, rfl, rfl, rfl, rfl⟩ rfl rfl rfl rfl rfl (by kernel_rfl) Try.func6 closed
    (of_decide_eq_true (by kernel_rfl)) (by unfold Func.isWrapper; first | (rw [if_pos (by decide +kernel)]; kernel_rfl) | (rw [if_neg (by decide +kernel)]; exact ⟨rfl, rfl⟩))
    (fun os started H enc _ => lifted os started H enc)

/-- ████ THE STATEMENT ████ -/
theorem proved : Rows.FnParsePlainRWLineReadsWhatIsWrittenSaid :=
  over
#print axioms proved
end Go.Proofs.Qxb6601361a.fnParsePlainRWLineReadsWhatIsWritten
