/-
  No cell of these rows narrows 'for every input' (looked for: loops, veiled, ifaces, maps, wideKeys, modest, calm, conditions, laid).
  DERIVED. THE GIVEN ROWS OF THIS SEAT. 5 by the template 'for every input the law returns true; each argument reads behind the call as it read before'; 0 by the template 'total and deterministic' (their statements: Qxb6601361aTotals.lean).
  GIVEN WITH THE SEED: the statements are not yours to turn. If you find one false, say at which input.
  Laid BY PROGRAM, IN A SANDBOX (cutbox-rows.mjs): the forced cells as the released guide's own fill.sh prints them over the translation 2c58d580647eda71… (all of the seat's roots in one cut). By AI agents, Wed Nov 11 2026. No macro, syntax, notation, axiom, sorry.
-/
import Derived.Test.Qxb6601361aChecked
import GoSem.Claim
import GoSem.ClaimJoined
import GoSem.ClaimMapViews
import Derived.JoinedTies
import Derived.KernelRfl
namespace Go.Proofs.Qxb6601361a
/- THE CELL 'sum', in the pinned program and in every row, IS THE sha256 OF THE DUMP (.gsa) THAT Qxb6601361aProg.lean LOADS. Nothing in Lean hashes anything: it is a label: what it is worth is what the hold of that sum in a sandbox is worth. -/
noncomputable def Try.pinned : Pinned := { name := "qxb6601361a", sum := "2c58d580647eda7132b243d5ea46c96a0014f509410d1f9d380826e31917974b", checked := Try.checked }
namespace Rows
def none {H : Type} : Left H := { results := [], args := [] }

/-- 'zzlaws_pkg_history_b1.FnScannerNumberMatchesGrammarAutomaton': WHATEVER THE INPUT: true; the input reads as it did. -/
def fnScannerNumberMatchesGrammarAutomatonSpec : ChangeSpec := { name := "fnScannerNumberMatchesGrammarAutomaton", fn := fun _ => fun
  | [d1, d2, d3, d4] => { results := [.lit (.bool true)], args := [d1, d2, d3, d4] }
  | _ => none }
def fnScannerNumberMatchesGrammarAutomatonRow : OpenClaim := { program := "qxb6601361a", sum := "2c58d580647eda7132b243d5ea46c96a0014f509410d1f9d380826e31917974b", func := "example.com/tracewright/tracewright/zzlaws_pkg_history_b1.FnScannerNumberMatchesGrammarAutomaton", spec := "fnScannerNumberMatchesGrammarAutomaton", apart := false }
def FnScannerNumberMatchesGrammarAutomatonSaid : Prop := fnScannerNumberMatchesGrammarAutomatonRow.holds Try.pinned (OpenSpec.ofChange fnScannerNumberMatchesGrammarAutomatonSpec)

/-- ITS FALSE NEIGHBOUR: 'it returns false'. Refute it at one input. -/
def fnScannerNumberMatchesGrammarAutomatonWrong : ChangeSpec := { name := "fnScannerNumberMatchesGrammarAutomaton", fn := fun _ => fun
  | [d1, d2, d3, d4] => { results := [.lit (.bool false)], args := [d1, d2, d3, d4] }
  | _ => none }
def FnScannerNumberMatchesGrammarAutomatonWrongFalsely : Prop := fnScannerNumberMatchesGrammarAutomatonRow.holds Try.pinned (OpenSpec.ofChange fnScannerNumberMatchesGrammarAutomatonWrong)

/-- 'zzlaws_pkg_history_b1.FnScannerNumberTokenRescansWhole': WHATEVER THE INPUT: true; the input reads as it did. -/
def fnScannerNumberTokenRescansWholeSpec : ChangeSpec := { name := "fnScannerNumberTokenRescansWhole", fn := fun _ => fun
  | [d1, d2] => { results := [.lit (.bool true)], args := [d1, d2] }
  | _ => none }
def fnScannerNumberTokenRescansWholeRow : OpenClaim := { program := "qxb6601361a", sum := "2c58d580647eda7132b243d5ea46c96a0014f509410d1f9d380826e31917974b", func := "example.com/tracewright/tracewright/zzlaws_pkg_history_b1.FnScannerNumberTokenRescansWhole", spec := "fnScannerNumberTokenRescansWhole", apart := false }
def FnScannerNumberTokenRescansWholeSaid : Prop := fnScannerNumberTokenRescansWholeRow.holds Try.pinned (OpenSpec.ofChange fnScannerNumberTokenRescansWholeSpec)

/-- ITS FALSE NEIGHBOUR: 'it returns false'. Refute it at one input. -/
def fnScannerNumberTokenRescansWholeWrong : ChangeSpec := { name := "fnScannerNumberTokenRescansWhole", fn := fun _ => fun
  | [d1, d2] => { results := [.lit (.bool false)], args := [d1, d2] }
  | _ => none }
def FnScannerNumberTokenRescansWholeWrongFalsely : Prop := fnScannerNumberTokenRescansWholeRow.holds Try.pinned (OpenSpec.ofChange fnScannerNumberTokenRescansWholeWrong)

/-- 'zzlaws_pkg_history_b1.FnParsePlainRWLineMatchesCharMachine': WHATEVER THE INPUT: true; the input reads as it did. -/
def fnParsePlainRWLineMatchesCharMachineSpec : ChangeSpec := { name := "fnParsePlainRWLineMatchesCharMachine", fn := fun _ => fun
  | [d] => { results := [.lit (.bool true)], args := [d] }
  | _ => none }
def fnParsePlainRWLineMatchesCharMachineRow : OpenClaim := { program := "qxb6601361a", sum := "2c58d580647eda7132b243d5ea46c96a0014f509410d1f9d380826e31917974b", func := "example.com/tracewright/tracewright/zzlaws_pkg_history_b1.FnParsePlainRWLineMatchesCharMachine", spec := "fnParsePlainRWLineMatchesCharMachine", apart := false }
def FnParsePlainRWLineMatchesCharMachineSaid : Prop := fnParsePlainRWLineMatchesCharMachineRow.holds Try.pinned (OpenSpec.ofChange fnParsePlainRWLineMatchesCharMachineSpec)

/-- ITS FALSE NEIGHBOUR: 'it returns false'. Refute it at one input. -/
def fnParsePlainRWLineMatchesCharMachineWrong : ChangeSpec := { name := "fnParsePlainRWLineMatchesCharMachine", fn := fun _ => fun
  | [d] => { results := [.lit (.bool false)], args := [d] }
  | _ => none }
def FnParsePlainRWLineMatchesCharMachineWrongFalsely : Prop := fnParsePlainRWLineMatchesCharMachineRow.holds Try.pinned (OpenSpec.ofChange fnParsePlainRWLineMatchesCharMachineWrong)

/-- 'zzlaws_pkg_history_b1.FnParsePlainRWLineReadsWhatIsWritten': WHATEVER THE INPUT: true; the input reads as it did. -/
def fnParsePlainRWLineReadsWhatIsWrittenSpec : ChangeSpec := { name := "fnParsePlainRWLineReadsWhatIsWritten", fn := fun _ => fun
  | [d1, d2, d3, d4, d5] => { results := [.lit (.bool true)], args := [d1, d2, d3, d4, d5] }
  | _ => none }
def fnParsePlainRWLineReadsWhatIsWrittenRow : OpenClaim := { program := "qxb6601361a", sum := "2c58d580647eda7132b243d5ea46c96a0014f509410d1f9d380826e31917974b", func := "example.com/tracewright/tracewright/zzlaws_pkg_history_b1.FnParsePlainRWLineReadsWhatIsWritten", spec := "fnParsePlainRWLineReadsWhatIsWritten", apart := false }
def FnParsePlainRWLineReadsWhatIsWrittenSaid : Prop := fnParsePlainRWLineReadsWhatIsWrittenRow.holds Try.pinned (OpenSpec.ofChange fnParsePlainRWLineReadsWhatIsWrittenSpec)

/-- ITS FALSE NEIGHBOUR: 'it returns false'. Refute it at one input. -/
def fnParsePlainRWLineReadsWhatIsWrittenWrong : ChangeSpec := { name := "fnParsePlainRWLineReadsWhatIsWritten", fn := fun _ => fun
  | [d1, d2, d3, d4, d5] => { results := [.lit (.bool false)], args := [d1, d2, d3, d4, d5] }
  | _ => none }
def FnParsePlainRWLineReadsWhatIsWrittenWrongFalsely : Prop := fnParsePlainRWLineReadsWhatIsWrittenRow.holds Try.pinned (OpenSpec.ofChange fnParsePlainRWLineReadsWhatIsWrittenWrong)

/-- 'zzlaws_pkg_history_b1.FnMemberNamesAddReportsRepeatsExactly': WHATEVER THE INPUT: true; the input reads as it did. -/
def fnMemberNamesAddReportsRepeatsExactlySpec : ChangeSpec := { name := "fnMemberNamesAddReportsRepeatsExactly", fn := fun _ => fun
  | [d] => { results := [.lit (.bool true)], args := [d] }
  | _ => none }
def fnMemberNamesAddReportsRepeatsExactlyRow : OpenClaim := { program := "qxb6601361a", sum := "2c58d580647eda7132b243d5ea46c96a0014f509410d1f9d380826e31917974b", func := "example.com/tracewright/tracewright/zzlaws_pkg_history_b1.FnMemberNamesAddReportsRepeatsExactly", spec := "fnMemberNamesAddReportsRepeatsExactly", apart := false }
def FnMemberNamesAddReportsRepeatsExactlySaid : Prop := fnMemberNamesAddReportsRepeatsExactlyRow.holds Try.pinned (OpenSpec.ofChange fnMemberNamesAddReportsRepeatsExactlySpec)

/-- ITS FALSE NEIGHBOUR: 'it returns false'. Refute it at one input. -/
def fnMemberNamesAddReportsRepeatsExactlyWrong : ChangeSpec := { name := "fnMemberNamesAddReportsRepeatsExactly", fn := fun _ => fun
  | [d] => { results := [.lit (.bool false)], args := [d] }
  | _ => none }
def FnMemberNamesAddReportsRepeatsExactlyWrongFalsely : Prop := fnMemberNamesAddReportsRepeatsExactlyRow.holds Try.pinned (OpenSpec.ofChange fnMemberNamesAddReportsRepeatsExactlyWrong)

end Rows
end Go.Proofs.Qxb6601361a
