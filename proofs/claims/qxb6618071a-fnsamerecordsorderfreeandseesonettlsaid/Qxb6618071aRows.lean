/-
  No cell of these rows narrows 'for every input' (looked for: loops, veiled, ifaces, maps, wideKeys, modest, calm, conditions, laid).
  DERIVED. THE GIVEN ROWS OF THIS SEAT. 3 by the template 'for every input the law returns true; each argument reads behind the call as it read before'; 0 by the template 'total and deterministic' (their statements: Qxb6618071aTotals.lean).
  GIVEN WITH THE SEED: the statements are not yours to turn. If you find one false, say at which input.
  Laid BY PROGRAM, IN A SANDBOX (cutbox-rows.mjs): the forced cells as the released guide's own fill.sh prints them over the translation 681527ce4b89621f… (all of the seat's roots in one cut). By AI agents, Wed Nov 11 2026. No macro, syntax, notation, axiom, sorry.
-/
import Derived.Test.Qxb6618071aChecked
import GoSem.Claim
import GoSem.ClaimJoined
import GoSem.ClaimMapViews
import Derived.JoinedTies
import Derived.KernelRfl
namespace Go.Proofs.Qxb6618071a
/- THE CELL 'sum', in the pinned program and in every row, IS THE sha256 OF THE DUMP (.gsa) THAT Qxb6618071aProg.lean LOADS. Nothing in Lean hashes anything: it is a label: what it is worth is what the hold of that sum in a sandbox is worth. -/
noncomputable def Try.pinned : Pinned := { name := "qxb6618071a", sum := "681527ce4b89621fc64f552258dd5b5251532ab4abdd4c809267067564b923f3", checked := Try.checked }
namespace Rows
def none {H : Type} : Left H := { results := [], args := [] }

/-- 'zzlaws_internal_update_b1.FnCountPartitionsAndDropsOneType': WHATEVER THE INPUT: true; the input reads as it did. -/
def fnCountPartitionsAndDropsOneTypeSpec : ChangeSpec := { name := "fnCountPartitionsAndDropsOneType", fn := fun _ => fun
  | [d1, d2] => { results := [.lit (.bool true)], args := [d1, d2] }
  | _ => none }
def fnCountPartitionsAndDropsOneTypeRow : OpenClaim := { program := "qxb6618071a", sum := "681527ce4b89621fc64f552258dd5b5251532ab4abdd4c809267067564b923f3", func := "example.com/zoneward/zoneward/zzlaws_internal_update_b1.FnCountPartitionsAndDropsOneType", spec := "fnCountPartitionsAndDropsOneType", apart := false }
def FnCountPartitionsAndDropsOneTypeSaid : Prop := fnCountPartitionsAndDropsOneTypeRow.holds Try.pinned (OpenSpec.ofChange fnCountPartitionsAndDropsOneTypeSpec)

/-- ITS FALSE NEIGHBOUR: 'it returns false'. Refute it at one input. -/
def fnCountPartitionsAndDropsOneTypeWrong : ChangeSpec := { name := "fnCountPartitionsAndDropsOneType", fn := fun _ => fun
  | [d1, d2] => { results := [.lit (.bool false)], args := [d1, d2] }
  | _ => none }
def FnCountPartitionsAndDropsOneTypeWrongFalsely : Prop := fnCountPartitionsAndDropsOneTypeRow.holds Try.pinned (OpenSpec.ofChange fnCountPartitionsAndDropsOneTypeWrong)

/-- 'zzlaws_internal_update_b1.FnCountInsertAtAnyPlace': WHATEVER THE INPUT: true; the input reads as it did. -/
def fnCountInsertAtAnyPlaceSpec : ChangeSpec := { name := "fnCountInsertAtAnyPlace", fn := fun _ => fun
  | [d1, d2, d3, d4] => { results := [.lit (.bool true)], args := [d1, d2, d3, d4] }
  | _ => none }
def fnCountInsertAtAnyPlaceRow : OpenClaim := { program := "qxb6618071a", sum := "681527ce4b89621fc64f552258dd5b5251532ab4abdd4c809267067564b923f3", func := "example.com/zoneward/zoneward/zzlaws_internal_update_b1.FnCountInsertAtAnyPlace", spec := "fnCountInsertAtAnyPlace", apart := false }
def FnCountInsertAtAnyPlaceSaid : Prop := fnCountInsertAtAnyPlaceRow.holds Try.pinned (OpenSpec.ofChange fnCountInsertAtAnyPlaceSpec)

/-- ITS FALSE NEIGHBOUR: 'it returns false'. Refute it at one input. -/
def fnCountInsertAtAnyPlaceWrong : ChangeSpec := { name := "fnCountInsertAtAnyPlace", fn := fun _ => fun
  | [d1, d2, d3, d4] => { results := [.lit (.bool false)], args := [d1, d2, d3, d4] }
  | _ => none }
def FnCountInsertAtAnyPlaceWrongFalsely : Prop := fnCountInsertAtAnyPlaceRow.holds Try.pinned (OpenSpec.ofChange fnCountInsertAtAnyPlaceWrong)

/-- 'zzlaws_internal_update_b1.FnSameRecordsOrderFreeAndSeesOneTTL': WHATEVER THE INPUT: true; the input reads as it did. -/
def fnSameRecordsOrderFreeAndSeesOneTTLSpec : ChangeSpec := { name := "fnSameRecordsOrderFreeAndSeesOneTTL", fn := fun _ => fun
  | [d1, d2, d3, d4] => { results := [.lit (.bool true)], args := [d1, d2, d3, d4] }
  | _ => none }
def fnSameRecordsOrderFreeAndSeesOneTTLRow : OpenClaim := { program := "qxb6618071a", sum := "681527ce4b89621fc64f552258dd5b5251532ab4abdd4c809267067564b923f3", func := "example.com/zoneward/zoneward/zzlaws_internal_update_b1.FnSameRecordsOrderFreeAndSeesOneTTL", spec := "fnSameRecordsOrderFreeAndSeesOneTTL", unfollowed := true, recurses := true, apart := false }
def FnSameRecordsOrderFreeAndSeesOneTTLSaid : Prop := fnSameRecordsOrderFreeAndSeesOneTTLRow.holds Try.pinned (OpenSpec.ofChange fnSameRecordsOrderFreeAndSeesOneTTLSpec)

/-- ITS FALSE NEIGHBOUR: 'it returns false'. Refute it at one input. -/
def fnSameRecordsOrderFreeAndSeesOneTTLWrong : ChangeSpec := { name := "fnSameRecordsOrderFreeAndSeesOneTTL", fn := fun _ => fun
  | [d1, d2, d3, d4] => { results := [.lit (.bool false)], args := [d1, d2, d3, d4] }
  | _ => none }
def FnSameRecordsOrderFreeAndSeesOneTTLWrongFalsely : Prop := fnSameRecordsOrderFreeAndSeesOneTTLRow.holds Try.pinned (OpenSpec.ofChange fnSameRecordsOrderFreeAndSeesOneTTLWrong)

end Rows
end Go.Proofs.Qxb6618071a
