/-
  No cell of these rows narrows 'for every input' (looked for: loops, veiled, ifaces, maps, wideKeys, modest, calm, conditions, laid).
  DERIVED. THE GIVEN ROWS OF THIS SEAT. 4 by the template 'for every input the law returns true; each argument reads behind the call as it read before'; 0 by the template 'total and deterministic' (their statements: Qxb6605586aTotals.lean).
  GIVEN WITH THE SEED: the statements are not yours to turn. If you find one false, say at which input.
  Laid BY PROGRAM, IN A SANDBOX (cutbox-rows.mjs): the forced cells as the released guide's own fill.sh prints them over the translation 6e1ec6e9723fe4b4… (all of the seat's roots in one cut). By AI agents, Wed Nov 11 2026. No macro, syntax, notation, axiom, sorry.
-/
import Derived.Test.Qxb6605586aChecked
import GoSem.Claim
import GoSem.ClaimJoined
import GoSem.ClaimMapViews
import Derived.JoinedTies
import Derived.KernelRfl
namespace Go.Proofs.Qxb6605586a
/- THE CELL 'sum', in the pinned program and in every row, IS THE sha256 OF THE DUMP (.gsa) THAT Qxb6605586aProg.lean LOADS. Nothing in Lean hashes anything: it is a label: what it is worth is what the hold of that sum in a sandbox is worth. -/
noncomputable def Try.pinned : Pinned := { name := "qxb6605586a", sum := "6e1ec6e9723fe4b45ba069e8ec6af340797edb1424ba3dee18551c6760f56cda", checked := Try.checked }
namespace Rows
def none {H : Type} : Left H := { results := [], args := [] }

/-- 'zzlaws_postgres_b1.FnPositionsAndIDsUnzipsRefs': WHATEVER THE INPUT: true; the input reads as it did. -/
def fnPositionsAndIDsUnzipsRefsSpec : ChangeSpec := { name := "fnPositionsAndIDsUnzipsRefs", fn := fun _ => fun
  | [d1, d2] => { results := [.lit (.bool true)], args := [d1, d2] }
  | _ => none }
def fnPositionsAndIDsUnzipsRefsRow : OpenClaim := { program := "qxb6605586a", sum := "6e1ec6e9723fe4b45ba069e8ec6af340797edb1424ba3dee18551c6760f56cda", func := "example.com/commitpost/commitpost/zzlaws_postgres_b1.FnPositionsAndIDsUnzipsRefs", spec := "fnPositionsAndIDsUnzipsRefs", apart := false }
def FnPositionsAndIDsUnzipsRefsSaid : Prop := fnPositionsAndIDsUnzipsRefsRow.holds Try.pinned (OpenSpec.ofChange fnPositionsAndIDsUnzipsRefsSpec)

/-- ITS FALSE NEIGHBOUR: 'it returns false'. Refute it at one input. -/
def fnPositionsAndIDsUnzipsRefsWrong : ChangeSpec := { name := "fnPositionsAndIDsUnzipsRefs", fn := fun _ => fun
  | [d1, d2] => { results := [.lit (.bool false)], args := [d1, d2] }
  | _ => none }
def FnPositionsAndIDsUnzipsRefsWrongFalsely : Prop := fnPositionsAndIDsUnzipsRefsRow.holds Try.pinned (OpenSpec.ofChange fnPositionsAndIDsUnzipsRefsWrong)

/-- 'zzlaws_postgres_b1.FnPositionsAndIDsIDsAgreeWithUUIDs': WHATEVER THE INPUT: true; the input reads as it did. -/
def fnPositionsAndIDsIDsAgreeWithUUIDsSpec : ChangeSpec := { name := "fnPositionsAndIDsIDsAgreeWithUUIDs", fn := fun _ => fun
  | [d1, d2] => { results := [.lit (.bool true)], args := [d1, d2] }
  | _ => none }
def fnPositionsAndIDsIDsAgreeWithUUIDsRow : OpenClaim := { program := "qxb6605586a", sum := "6e1ec6e9723fe4b45ba069e8ec6af340797edb1424ba3dee18551c6760f56cda", func := "example.com/commitpost/commitpost/zzlaws_postgres_b1.FnPositionsAndIDsIDsAgreeWithUUIDs", spec := "fnPositionsAndIDsIDsAgreeWithUUIDs", apart := false }
def FnPositionsAndIDsIDsAgreeWithUUIDsSaid : Prop := fnPositionsAndIDsIDsAgreeWithUUIDsRow.holds Try.pinned (OpenSpec.ofChange fnPositionsAndIDsIDsAgreeWithUUIDsSpec)

/-- ITS FALSE NEIGHBOUR: 'it returns false'. Refute it at one input. -/
def fnPositionsAndIDsIDsAgreeWithUUIDsWrong : ChangeSpec := { name := "fnPositionsAndIDsIDsAgreeWithUUIDs", fn := fun _ => fun
  | [d1, d2] => { results := [.lit (.bool false)], args := [d1, d2] }
  | _ => none }
def FnPositionsAndIDsIDsAgreeWithUUIDsWrongFalsely : Prop := fnPositionsAndIDsIDsAgreeWithUUIDsRow.holds Try.pinned (OpenSpec.ofChange fnPositionsAndIDsIDsAgreeWithUUIDsWrong)

/-- 'zzlaws_postgres_b1.FnTypesAndIDsUnzipsAggregates': WHATEVER THE INPUT: true; the input reads as it did. -/
def fnTypesAndIDsUnzipsAggregatesSpec : ChangeSpec := { name := "fnTypesAndIDsUnzipsAggregates", fn := fun _ => fun
  | [d1, d2] => { results := [.lit (.bool true)], args := [d1, d2] }
  | _ => none }
def fnTypesAndIDsUnzipsAggregatesRow : OpenClaim := { program := "qxb6605586a", sum := "6e1ec6e9723fe4b45ba069e8ec6af340797edb1424ba3dee18551c6760f56cda", func := "example.com/commitpost/commitpost/zzlaws_postgres_b1.FnTypesAndIDsUnzipsAggregates", spec := "fnTypesAndIDsUnzipsAggregates", apart := false }
def FnTypesAndIDsUnzipsAggregatesSaid : Prop := fnTypesAndIDsUnzipsAggregatesRow.holds Try.pinned (OpenSpec.ofChange fnTypesAndIDsUnzipsAggregatesSpec)

/-- ITS FALSE NEIGHBOUR: 'it returns false'. Refute it at one input. -/
def fnTypesAndIDsUnzipsAggregatesWrong : ChangeSpec := { name := "fnTypesAndIDsUnzipsAggregates", fn := fun _ => fun
  | [d1, d2] => { results := [.lit (.bool false)], args := [d1, d2] }
  | _ => none }
def FnTypesAndIDsUnzipsAggregatesWrongFalsely : Prop := fnTypesAndIDsUnzipsAggregatesRow.holds Try.pinned (OpenSpec.ofChange fnTypesAndIDsUnzipsAggregatesWrong)

/-- 'zzlaws_postgres_b1.FnUUIDsKeepsEveryIDInOrder': WHATEVER THE INPUT: true; the input reads as it did. -/
def fnUUIDsKeepsEveryIDInOrderSpec : ChangeSpec := { name := "fnUUIDsKeepsEveryIDInOrder", fn := fun _ => fun
  | [d] => { results := [.lit (.bool true)], args := [d] }
  | _ => none }
def fnUUIDsKeepsEveryIDInOrderRow : OpenClaim := { program := "qxb6605586a", sum := "6e1ec6e9723fe4b45ba069e8ec6af340797edb1424ba3dee18551c6760f56cda", func := "example.com/commitpost/commitpost/zzlaws_postgres_b1.FnUUIDsKeepsEveryIDInOrder", spec := "fnUUIDsKeepsEveryIDInOrder", apart := false }
def FnUUIDsKeepsEveryIDInOrderSaid : Prop := fnUUIDsKeepsEveryIDInOrderRow.holds Try.pinned (OpenSpec.ofChange fnUUIDsKeepsEveryIDInOrderSpec)

/-- ITS FALSE NEIGHBOUR: 'it returns false'. Refute it at one input. -/
def fnUUIDsKeepsEveryIDInOrderWrong : ChangeSpec := { name := "fnUUIDsKeepsEveryIDInOrder", fn := fun _ => fun
  | [d] => { results := [.lit (.bool false)], args := [d] }
  | _ => none }
def FnUUIDsKeepsEveryIDInOrderWrongFalsely : Prop := fnUUIDsKeepsEveryIDInOrderRow.holds Try.pinned (OpenSpec.ofChange fnUUIDsKeepsEveryIDInOrderWrong)

end Rows
end Go.Proofs.Qxb6605586a
