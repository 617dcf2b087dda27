/-
  No cell of these rows narrows 'for every input' (looked for: loops, veiled, ifaces, maps, wideKeys, modest, calm, conditions, laid).
  DERIVED. THE GIVEN ROWS OF THIS SEAT. 4 by the template 'for every input the law returns true; each argument reads behind the call as it read before'; 0 by the template 'total and deterministic' (their statements: Qxb6619006aTotals.lean).
  GIVEN WITH THE SEED: the statements are not yours to turn. If you find one false, say at which input.
  Laid BY PROGRAM, IN A SANDBOX (cutbox-rows.mjs): the forced cells as the released guide's own fill.sh prints them over the translation 8d3e7a825ee1a303… (all of the seat's roots in one cut). By AI agents, Wed Nov 11 2026. No macro, syntax, notation, axiom, sorry.
-/
import Derived.Test.Qxb6619006aChecked
import GoSem.Claim
import GoSem.ClaimJoined
import GoSem.ClaimMapViews
import Derived.JoinedTies
import Derived.KernelRfl
namespace Go.Proofs.Qxb6619006a
/- THE CELL 'sum', in the pinned program and in every row, IS THE sha256 OF THE DUMP (.gsa) THAT Qxb6619006aProg.lean LOADS. Nothing in Lean hashes anything: it is a label: what it is worth is what the hold of that sum in a sandbox is worth. -/
noncomputable def Try.pinned : Pinned := { name := "qxb6619006a", sum := "8d3e7a825ee1a303d85a0465efa892ab670b86000a6541aae73edecc953a2df6", checked := Try.checked }
namespace Rows
def none {H : Type} : Left H := { results := [], args := [] }

/-- 'zzlaws_internal_rules_b1.FnBlockFromAbroadFollowsHLRAlone': WHATEVER THE INPUT: true; the input reads as it did. -/
def fnBlockFromAbroadFollowsHLRAloneSpec : ChangeSpec := { name := "fnBlockFromAbroadFollowsHLRAlone", fn := fun _ => fun
  | [d1, d2, d3, d4] => { results := [.lit (.bool true)], args := [d1, d2, d3, d4] }
  | _ => none }
def fnBlockFromAbroadFollowsHLRAloneRow : OpenClaim := { program := "qxb6619006a", sum := "8d3e7a825ee1a303d85a0465efa892ab670b86000a6541aae73edecc953a2df6", func := "example.com/varco/varco/zzlaws_internal_rules_b1.FnBlockFromAbroadFollowsHLRAlone", spec := "fnBlockFromAbroadFollowsHLRAlone", apart := false }
def FnBlockFromAbroadFollowsHLRAloneSaid : Prop := fnBlockFromAbroadFollowsHLRAloneRow.holds Try.pinned (OpenSpec.ofChange fnBlockFromAbroadFollowsHLRAloneSpec)

/-- ITS FALSE NEIGHBOUR: 'it returns false'. Refute it at one input. -/
def fnBlockFromAbroadFollowsHLRAloneWrong : ChangeSpec := { name := "fnBlockFromAbroadFollowsHLRAlone", fn := fun _ => fun
  | [d1, d2, d3, d4] => { results := [.lit (.bool false)], args := [d1, d2, d3, d4] }
  | _ => none }
def FnBlockFromAbroadFollowsHLRAloneWrongFalsely : Prop := fnBlockFromAbroadFollowsHLRAloneRow.holds Try.pinned (OpenSpec.ofChange fnBlockFromAbroadFollowsHLRAloneWrong)

/-- 'zzlaws_internal_rules_b1.FnBlockFromAbroadSwapDiffersIffOneIsAbroad': WHATEVER THE INPUT: true; the input reads as it did. -/
def fnBlockFromAbroadSwapDiffersIffOneIsAbroadSpec : ChangeSpec := { name := "fnBlockFromAbroadSwapDiffersIffOneIsAbroad", fn := fun _ => fun
  | [d1, d2] => { results := [.lit (.bool true)], args := [d1, d2] }
  | _ => none }
def fnBlockFromAbroadSwapDiffersIffOneIsAbroadRow : OpenClaim := { program := "qxb6619006a", sum := "8d3e7a825ee1a303d85a0465efa892ab670b86000a6541aae73edecc953a2df6", func := "example.com/varco/varco/zzlaws_internal_rules_b1.FnBlockFromAbroadSwapDiffersIffOneIsAbroad", spec := "fnBlockFromAbroadSwapDiffersIffOneIsAbroad", apart := false }
def FnBlockFromAbroadSwapDiffersIffOneIsAbroadSaid : Prop := fnBlockFromAbroadSwapDiffersIffOneIsAbroadRow.holds Try.pinned (OpenSpec.ofChange fnBlockFromAbroadSwapDiffersIffOneIsAbroadSpec)

/-- ITS FALSE NEIGHBOUR: 'it returns false'. Refute it at one input. -/
def fnBlockFromAbroadSwapDiffersIffOneIsAbroadWrong : ChangeSpec := { name := "fnBlockFromAbroadSwapDiffersIffOneIsAbroad", fn := fun _ => fun
  | [d1, d2] => { results := [.lit (.bool false)], args := [d1, d2] }
  | _ => none }
def FnBlockFromAbroadSwapDiffersIffOneIsAbroadWrongFalsely : Prop := fnBlockFromAbroadSwapDiffersIffOneIsAbroadRow.holds Try.pinned (OpenSpec.ofChange fnBlockFromAbroadSwapDiffersIffOneIsAbroadWrong)

/-- 'zzlaws_internal_rules_b1.FnVerdictTwoValuedAndBlockIdsPrefixFree': WHATEVER THE INPUT: true; the input reads as it did. -/
def fnVerdictTwoValuedAndBlockIdsPrefixFreeSpec : ChangeSpec := { name := "fnVerdictTwoValuedAndBlockIdsPrefixFree", fn := fun _ => fun
  | [d1, d2] => { results := [.lit (.bool true)], args := [d1, d2] }
  | _ => none }
def fnVerdictTwoValuedAndBlockIdsPrefixFreeRow : OpenClaim := { program := "qxb6619006a", sum := "8d3e7a825ee1a303d85a0465efa892ab670b86000a6541aae73edecc953a2df6", func := "example.com/varco/varco/zzlaws_internal_rules_b1.FnVerdictTwoValuedAndBlockIdsPrefixFree", spec := "fnVerdictTwoValuedAndBlockIdsPrefixFree", apart := false }
def FnVerdictTwoValuedAndBlockIdsPrefixFreeSaid : Prop := fnVerdictTwoValuedAndBlockIdsPrefixFreeRow.holds Try.pinned (OpenSpec.ofChange fnVerdictTwoValuedAndBlockIdsPrefixFreeSpec)

/-- ITS FALSE NEIGHBOUR: 'it returns false'. Refute it at one input. -/
def fnVerdictTwoValuedAndBlockIdsPrefixFreeWrong : ChangeSpec := { name := "fnVerdictTwoValuedAndBlockIdsPrefixFree", fn := fun _ => fun
  | [d1, d2] => { results := [.lit (.bool false)], args := [d1, d2] }
  | _ => none }
def FnVerdictTwoValuedAndBlockIdsPrefixFreeWrongFalsely : Prop := fnVerdictTwoValuedAndBlockIdsPrefixFreeRow.holds Try.pinned (OpenSpec.ofChange fnVerdictTwoValuedAndBlockIdsPrefixFreeWrong)

/-- 'zzlaws_internal_rules_b1.FnVerdictUpperCasedIdPasses': WHATEVER THE INPUT: true; the input reads as it did. -/
def fnVerdictUpperCasedIdPassesSpec : ChangeSpec := { name := "fnVerdictUpperCasedIdPasses", fn := fun _ => fun
  | [d] => { results := [.lit (.bool true)], args := [d] }
  | _ => none }
def fnVerdictUpperCasedIdPassesRow : OpenClaim := { program := "qxb6619006a", sum := "8d3e7a825ee1a303d85a0465efa892ab670b86000a6541aae73edecc953a2df6", func := "example.com/varco/varco/zzlaws_internal_rules_b1.FnVerdictUpperCasedIdPasses", spec := "fnVerdictUpperCasedIdPasses", apart := false }
def FnVerdictUpperCasedIdPassesSaid : Prop := fnVerdictUpperCasedIdPassesRow.holds Try.pinned (OpenSpec.ofChange fnVerdictUpperCasedIdPassesSpec)

/-- ITS FALSE NEIGHBOUR: 'it returns false'. Refute it at one input. -/
def fnVerdictUpperCasedIdPassesWrong : ChangeSpec := { name := "fnVerdictUpperCasedIdPasses", fn := fun _ => fun
  | [d] => { results := [.lit (.bool false)], args := [d] }
  | _ => none }
def FnVerdictUpperCasedIdPassesWrongFalsely : Prop := fnVerdictUpperCasedIdPassesRow.holds Try.pinned (OpenSpec.ofChange fnVerdictUpperCasedIdPassesWrong)

end Rows
end Go.Proofs.Qxb6619006a
