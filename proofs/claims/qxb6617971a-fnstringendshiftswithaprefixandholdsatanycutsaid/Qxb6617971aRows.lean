/-
  No cell of these rows narrows 'for every input' (looked for: loops, veiled, ifaces, maps, wideKeys, modest, calm, conditions, laid).
  DERIVED. THE GIVEN ROWS OF THIS SEAT. 3 by the template 'for every input the law returns true; each argument reads behind the call as it read before'; 0 by the template 'total and deterministic' (their statements: Qxb6617971aTotals.lean).
  GIVEN WITH THE SEED: the statements are not yours to turn. If you find one false, say at which input.
  Laid BY PROGRAM, IN A SANDBOX (cutbox-rows.mjs): the forced cells as the released guide's own fill.sh prints them over the translation 938ac9b901099516… (all of the seat's roots in one cut). By AI agents, Wed Nov 11 2026. No macro, syntax, notation, axiom, sorry.
-/
import Derived.Test.Qxb6617971aChecked
import GoSem.Claim
import GoSem.ClaimJoined
import GoSem.ClaimMapViews
import Derived.JoinedTies
import Derived.KernelRfl
namespace Go.Proofs.Qxb6617971a
/- THE CELL 'sum', in the pinned program and in every row, IS THE sha256 OF THE DUMP (.gsa) THAT Qxb6617971aProg.lean LOADS. Nothing in Lean hashes anything: it is a label: what it is worth is what the hold of that sum in a sandbox is worth. -/
noncomputable def Try.pinned : Pinned := { name := "qxb6617971a", sum := "938ac9b901099516e47f52ba808838be5593a6ea2b34b648b0a1546e2b03e404", checked := Try.checked }
namespace Rows
def none {H : Type} : Left H := { results := [], args := [] }

/-- 'zzlaws_internal_metrics_b1.FnStringEndShiftsWithAPrefixAndHoldsAtAnyCut': WHATEVER THE INPUT: true; the input reads as it did. -/
def fnStringEndShiftsWithAPrefixAndHoldsAtAnyCutSpec : ChangeSpec := { name := "fnStringEndShiftsWithAPrefixAndHoldsAtAnyCut", fn := fun _ => fun
  | [d1, d2, d3, d4] => { results := [.lit (.bool true)], args := [d1, d2, d3, d4] }
  | _ => none }
def fnStringEndShiftsWithAPrefixAndHoldsAtAnyCutRow : OpenClaim := { program := "qxb6617971a", sum := "938ac9b901099516e47f52ba808838be5593a6ea2b34b648b0a1546e2b03e404", func := "example.com/stepgate/stepgate/zzlaws_internal_metrics_b1.FnStringEndShiftsWithAPrefixAndHoldsAtAnyCut", spec := "fnStringEndShiftsWithAPrefixAndHoldsAtAnyCut", apart := false }
def FnStringEndShiftsWithAPrefixAndHoldsAtAnyCutSaid : Prop := fnStringEndShiftsWithAPrefixAndHoldsAtAnyCutRow.holds Try.pinned (OpenSpec.ofChange fnStringEndShiftsWithAPrefixAndHoldsAtAnyCutSpec)

/-- ITS FALSE NEIGHBOUR: 'it returns false'. Refute it at one input. -/
def fnStringEndShiftsWithAPrefixAndHoldsAtAnyCutWrong : ChangeSpec := { name := "fnStringEndShiftsWithAPrefixAndHoldsAtAnyCut", fn := fun _ => fun
  | [d1, d2, d3, d4] => { results := [.lit (.bool false)], args := [d1, d2, d3, d4] }
  | _ => none }
def FnStringEndShiftsWithAPrefixAndHoldsAtAnyCutWrongFalsely : Prop := fnStringEndShiftsWithAPrefixAndHoldsAtAnyCutRow.holds Try.pinned (OpenSpec.ofChange fnStringEndShiftsWithAPrefixAndHoldsAtAnyCutWrong)

/-- 'zzlaws_internal_metrics_b1.FnNumberEndIsTheEndOfTheLongestRun': WHATEVER THE INPUT: true; the input reads as it did. -/
def fnNumberEndIsTheEndOfTheLongestRunSpec : ChangeSpec := { name := "fnNumberEndIsTheEndOfTheLongestRun", fn := fun _ => fun
  | [d1, d2] => { results := [.lit (.bool true)], args := [d1, d2] }
  | _ => none }
def fnNumberEndIsTheEndOfTheLongestRunRow : OpenClaim := { program := "qxb6617971a", sum := "938ac9b901099516e47f52ba808838be5593a6ea2b34b648b0a1546e2b03e404", func := "example.com/stepgate/stepgate/zzlaws_internal_metrics_b1.FnNumberEndIsTheEndOfTheLongestRun", spec := "fnNumberEndIsTheEndOfTheLongestRun", apart := false }
def FnNumberEndIsTheEndOfTheLongestRunSaid : Prop := fnNumberEndIsTheEndOfTheLongestRunRow.holds Try.pinned (OpenSpec.ofChange fnNumberEndIsTheEndOfTheLongestRunSpec)

/-- ITS FALSE NEIGHBOUR: 'it returns false'. Refute it at one input. -/
def fnNumberEndIsTheEndOfTheLongestRunWrong : ChangeSpec := { name := "fnNumberEndIsTheEndOfTheLongestRun", fn := fun _ => fun
  | [d1, d2] => { results := [.lit (.bool false)], args := [d1, d2] }
  | _ => none }
def FnNumberEndIsTheEndOfTheLongestRunWrongFalsely : Prop := fnNumberEndIsTheEndOfTheLongestRunRow.holds Try.pinned (OpenSpec.ofChange fnNumberEndIsTheEndOfTheLongestRunWrong)

/-- 'zzlaws_internal_metrics_b1.FnNumberEndJoinsAndResumes': WHATEVER THE INPUT: true; the input reads as it did. -/
def fnNumberEndJoinsAndResumesSpec : ChangeSpec := { name := "fnNumberEndJoinsAndResumes", fn := fun _ => fun
  | [d1, d2, d3, d4] => { results := [.lit (.bool true)], args := [d1, d2, d3, d4] }
  | _ => none }
def fnNumberEndJoinsAndResumesRow : OpenClaim := { program := "qxb6617971a", sum := "938ac9b901099516e47f52ba808838be5593a6ea2b34b648b0a1546e2b03e404", func := "example.com/stepgate/stepgate/zzlaws_internal_metrics_b1.FnNumberEndJoinsAndResumes", spec := "fnNumberEndJoinsAndResumes", apart := false }
def FnNumberEndJoinsAndResumesSaid : Prop := fnNumberEndJoinsAndResumesRow.holds Try.pinned (OpenSpec.ofChange fnNumberEndJoinsAndResumesSpec)

/-- ITS FALSE NEIGHBOUR: 'it returns false'. Refute it at one input. -/
def fnNumberEndJoinsAndResumesWrong : ChangeSpec := { name := "fnNumberEndJoinsAndResumes", fn := fun _ => fun
  | [d1, d2, d3, d4] => { results := [.lit (.bool false)], args := [d1, d2, d3, d4] }
  | _ => none }
def FnNumberEndJoinsAndResumesWrongFalsely : Prop := fnNumberEndJoinsAndResumesRow.holds Try.pinned (OpenSpec.ofChange fnNumberEndJoinsAndResumesWrong)

end Rows
end Go.Proofs.Qxb6617971a
