/-
  No cell of these rows narrows 'for every input' (looked for: loops, veiled, ifaces, maps, wideKeys, modest, calm, conditions, laid).
  DERIVED. THE GIVEN ROWS OF THIS SEAT. 6 by the template 'for every input the law returns true; each argument reads behind the call as it read before'; 0 by the template 'total and deterministic' (their statements: Qxb6600479aTotals.lean).
  GIVEN WITH THE SEED: the statements are not yours to turn. If you find one false, say at which input.
  Laid BY PROGRAM, IN A SANDBOX (cutbox-rows.mjs): the forced cells as the released guide's own fill.sh prints them over the translation dd27422117b1a025… (all of the seat's roots in one cut). By AI agents, Wed Nov 11 2026. No macro, syntax, notation, axiom, sorry.
-/
import Derived.Test.Qxb6600479aChecked
import GoSem.Claim
import GoSem.ClaimJoined
import GoSem.ClaimMapViews
import Derived.JoinedTies
import Derived.KernelRfl
namespace Go.Proofs.Qxb6600479a
/- THE CELL 'sum', in the pinned program and in every row, IS THE sha256 OF THE DUMP (.gsa) THAT Qxb6600479aProg.lean LOADS. Nothing in Lean hashes anything: it is a label: what it is worth is what the hold of that sum in a sandbox is worth. -/
noncomputable def Try.pinned : Pinned := { name := "qxb6600479a", sum := "dd27422117b1a0253a661bdd213127fd5d1aef2ae8d9ed8402f1580bec92949f", checked := Try.checked }
namespace Rows
def none {H : Type} : Left H := { results := [], args := [] }

/-- 'zzlaws_internal_screen_b1.FnPutMatchesColumnModel': WHATEVER THE INPUT: true; the input reads as it did. -/
def fnPutMatchesColumnModelSpec : ChangeSpec := { name := "fnPutMatchesColumnModel", fn := fun _ => fun
  | [d1, d2, d3, d4, d5, d6, d7] => { results := [.lit (.bool true)], args := [d1, d2, d3, d4, d5, d6, d7] }
  | _ => none }
def fnPutMatchesColumnModelRow : OpenClaim := { program := "qxb6600479a", sum := "dd27422117b1a0253a661bdd213127fd5d1aef2ae8d9ed8402f1580bec92949f", func := "example.com/mooring/mooring/zzlaws_internal_screen_b1.FnPutMatchesColumnModel", spec := "fnPutMatchesColumnModel", apart := false }
def FnPutMatchesColumnModelSaid : Prop := fnPutMatchesColumnModelRow.holds Try.pinned (OpenSpec.ofChange fnPutMatchesColumnModelSpec)

/-- ITS FALSE NEIGHBOUR: 'it returns false'. Refute it at one input. -/
def fnPutMatchesColumnModelWrong : ChangeSpec := { name := "fnPutMatchesColumnModel", fn := fun _ => fun
  | [d1, d2, d3, d4, d5, d6, d7] => { results := [.lit (.bool false)], args := [d1, d2, d3, d4, d5, d6, d7] }
  | _ => none }
def FnPutMatchesColumnModelWrongFalsely : Prop := fnPutMatchesColumnModelRow.holds Try.pinned (OpenSpec.ofChange fnPutMatchesColumnModelWrong)

/-- 'zzlaws_internal_screen_b1.FnPutIsIdempotent': WHATEVER THE INPUT: true; the input reads as it did. -/
def fnPutIsIdempotentSpec : ChangeSpec := { name := "fnPutIsIdempotent", fn := fun _ => fun
  | [d1, d2, d3, d4, d5, d6, d7] => { results := [.lit (.bool true)], args := [d1, d2, d3, d4, d5, d6, d7] }
  | _ => none }
def fnPutIsIdempotentRow : OpenClaim := { program := "qxb6600479a", sum := "dd27422117b1a0253a661bdd213127fd5d1aef2ae8d9ed8402f1580bec92949f", func := "example.com/mooring/mooring/zzlaws_internal_screen_b1.FnPutIsIdempotent", spec := "fnPutIsIdempotent", apart := false }
def FnPutIsIdempotentSaid : Prop := fnPutIsIdempotentRow.holds Try.pinned (OpenSpec.ofChange fnPutIsIdempotentSpec)

/-- ITS FALSE NEIGHBOUR: 'it returns false'. Refute it at one input. -/
def fnPutIsIdempotentWrong : ChangeSpec := { name := "fnPutIsIdempotent", fn := fun _ => fun
  | [d1, d2, d3, d4, d5, d6, d7] => { results := [.lit (.bool false)], args := [d1, d2, d3, d4, d5, d6, d7] }
  | _ => none }
def FnPutIsIdempotentWrongFalsely : Prop := fnPutIsIdempotentRow.holds Try.pinned (OpenSpec.ofChange fnPutIsIdempotentWrong)

/-- 'zzlaws_internal_screen_b1.FnPutKeepsLineWellFormed': WHATEVER THE INPUT: true; the input reads as it did. -/
def fnPutKeepsLineWellFormedSpec : ChangeSpec := { name := "fnPutKeepsLineWellFormed", fn := fun _ => fun
  | [d1, d2, d3, d4, d5, d6, d7] => { results := [.lit (.bool true)], args := [d1, d2, d3, d4, d5, d6, d7] }
  | _ => none }
def fnPutKeepsLineWellFormedRow : OpenClaim := { program := "qxb6600479a", sum := "dd27422117b1a0253a661bdd213127fd5d1aef2ae8d9ed8402f1580bec92949f", func := "example.com/mooring/mooring/zzlaws_internal_screen_b1.FnPutKeepsLineWellFormed", spec := "fnPutKeepsLineWellFormed", apart := false }
def FnPutKeepsLineWellFormedSaid : Prop := fnPutKeepsLineWellFormedRow.holds Try.pinned (OpenSpec.ofChange fnPutKeepsLineWellFormedSpec)

/-- ITS FALSE NEIGHBOUR: 'it returns false'. Refute it at one input. -/
def fnPutKeepsLineWellFormedWrong : ChangeSpec := { name := "fnPutKeepsLineWellFormed", fn := fun _ => fun
  | [d1, d2, d3, d4, d5, d6, d7] => { results := [.lit (.bool false)], args := [d1, d2, d3, d4, d5, d6, d7] }
  | _ => none }
def FnPutKeepsLineWellFormedWrongFalsely : Prop := fnPutKeepsLineWellFormedRow.holds Try.pinned (OpenSpec.ofChange fnPutKeepsLineWellFormedWrong)

/-- 'zzlaws_internal_screen_b1.FnRemoveMatchesSpliceModel': WHATEVER THE INPUT: true; the input reads as it did. -/
def fnRemoveMatchesSpliceModelSpec : ChangeSpec := { name := "fnRemoveMatchesSpliceModel", fn := fun _ => fun
  | [d1, d2, d3, d4, d5] => { results := [.lit (.bool true)], args := [d1, d2, d3, d4, d5] }
  | _ => none }
def fnRemoveMatchesSpliceModelRow : OpenClaim := { program := "qxb6600479a", sum := "dd27422117b1a0253a661bdd213127fd5d1aef2ae8d9ed8402f1580bec92949f", func := "example.com/mooring/mooring/zzlaws_internal_screen_b1.FnRemoveMatchesSpliceModel", spec := "fnRemoveMatchesSpliceModel", apart := false }
def FnRemoveMatchesSpliceModelSaid : Prop := fnRemoveMatchesSpliceModelRow.holds Try.pinned (OpenSpec.ofChange fnRemoveMatchesSpliceModelSpec)

/-- ITS FALSE NEIGHBOUR: 'it returns false'. Refute it at one input. -/
def fnRemoveMatchesSpliceModelWrong : ChangeSpec := { name := "fnRemoveMatchesSpliceModel", fn := fun _ => fun
  | [d1, d2, d3, d4, d5] => { results := [.lit (.bool false)], args := [d1, d2, d3, d4, d5] }
  | _ => none }
def FnRemoveMatchesSpliceModelWrongFalsely : Prop := fnRemoveMatchesSpliceModelRow.holds Try.pinned (OpenSpec.ofChange fnRemoveMatchesSpliceModelWrong)

/-- 'zzlaws_internal_screen_b1.FnRemoveKeepsLineWellFormed': WHATEVER THE INPUT: true; the input reads as it did. -/
def fnRemoveKeepsLineWellFormedSpec : ChangeSpec := { name := "fnRemoveKeepsLineWellFormed", fn := fun _ => fun
  | [d1, d2, d3, d4, d5] => { results := [.lit (.bool true)], args := [d1, d2, d3, d4, d5] }
  | _ => none }
def fnRemoveKeepsLineWellFormedRow : OpenClaim := { program := "qxb6600479a", sum := "dd27422117b1a0253a661bdd213127fd5d1aef2ae8d9ed8402f1580bec92949f", func := "example.com/mooring/mooring/zzlaws_internal_screen_b1.FnRemoveKeepsLineWellFormed", spec := "fnRemoveKeepsLineWellFormed", apart := false }
def FnRemoveKeepsLineWellFormedSaid : Prop := fnRemoveKeepsLineWellFormedRow.holds Try.pinned (OpenSpec.ofChange fnRemoveKeepsLineWellFormedSpec)

/-- ITS FALSE NEIGHBOUR: 'it returns false'. Refute it at one input. -/
def fnRemoveKeepsLineWellFormedWrong : ChangeSpec := { name := "fnRemoveKeepsLineWellFormed", fn := fun _ => fun
  | [d1, d2, d3, d4, d5] => { results := [.lit (.bool false)], args := [d1, d2, d3, d4, d5] }
  | _ => none }
def FnRemoveKeepsLineWellFormedWrongFalsely : Prop := fnRemoveKeepsLineWellFormedRow.holds Try.pinned (OpenSpec.ofChange fnRemoveKeepsLineWellFormedWrong)

/-- 'zzlaws_internal_screen_b1.FnRemoveTwiceIsRemoveOfSum': WHATEVER THE INPUT: true; the input reads as it did. -/
def fnRemoveTwiceIsRemoveOfSumSpec : ChangeSpec := { name := "fnRemoveTwiceIsRemoveOfSum", fn := fun _ => fun
  | [d1, d2, d3, d4, d5, d6] => { results := [.lit (.bool true)], args := [d1, d2, d3, d4, d5, d6] }
  | _ => none }
def fnRemoveTwiceIsRemoveOfSumRow : OpenClaim := { program := "qxb6600479a", sum := "dd27422117b1a0253a661bdd213127fd5d1aef2ae8d9ed8402f1580bec92949f", func := "example.com/mooring/mooring/zzlaws_internal_screen_b1.FnRemoveTwiceIsRemoveOfSum", spec := "fnRemoveTwiceIsRemoveOfSum", apart := false }
def FnRemoveTwiceIsRemoveOfSumSaid : Prop := fnRemoveTwiceIsRemoveOfSumRow.holds Try.pinned (OpenSpec.ofChange fnRemoveTwiceIsRemoveOfSumSpec)

/-- ITS FALSE NEIGHBOUR: 'it returns false'. Refute it at one input. -/
def fnRemoveTwiceIsRemoveOfSumWrong : ChangeSpec := { name := "fnRemoveTwiceIsRemoveOfSum", fn := fun _ => fun
  | [d1, d2, d3, d4, d5, d6] => { results := [.lit (.bool false)], args := [d1, d2, d3, d4, d5, d6] }
  | _ => none }
def FnRemoveTwiceIsRemoveOfSumWrongFalsely : Prop := fnRemoveTwiceIsRemoveOfSumRow.holds Try.pinned (OpenSpec.ofChange fnRemoveTwiceIsRemoveOfSumWrong)

end Rows
end Go.Proofs.Qxb6600479a
