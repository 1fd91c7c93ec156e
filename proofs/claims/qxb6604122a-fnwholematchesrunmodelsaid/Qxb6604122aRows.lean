/-
  No cell of these rows narrows 'for every input' (looked for: loops, veiled, ifaces, maps, wideKeys, modest, calm, conditions, laid).
  DERIVED. THE GIVEN ROWS OF THIS SEAT. 5 by the template 'for every input the law returns true; each argument reads behind the call as it read before'; 0 by the template 'total and deterministic' (their statements: Qxb6604122aTotals.lean).
  GIVEN WITH THE SEED: the statements are not yours to turn. If you find one false, say at which input.
  Laid BY PROGRAM, IN A SANDBOX (cutbox-rows.mjs): the forced cells as the released guide's own fill.sh prints them over the translation 3bd3d2c3d76bc2f1… (all of the seat's roots in one cut). By AI agents, Wed Nov 11 2026. No macro, syntax, notation, axiom, sorry.
-/
import Derived.Test.Qxb6604122aChecked
import GoSem.Claim
import GoSem.ClaimJoined
import GoSem.ClaimMapViews
import Derived.JoinedTies
import Derived.KernelRfl
namespace Go.Proofs.Qxb6604122a
/- THE CELL 'sum', in the pinned program and in every row, IS THE sha256 OF THE DUMP (.gsa) THAT Qxb6604122aProg.lean LOADS. Nothing in Lean hashes anything: it is a label: what it is worth is what the hold of that sum in a sandbox is worth. -/
noncomputable def Try.pinned : Pinned := { name := "qxb6604122a", sum := "3bd3d2c3d76bc2f1206bb0ac95fadd8499f334da0f4262f1a2c91c52d642067d", checked := Try.checked }
namespace Rows
def none {H : Type} : Left H := { results := [], args := [] }

/-- 'zzlaws_internal_air_b1.FnFillIsTheGreedyPartition': WHATEVER THE INPUT: true; the input reads as it did. -/
def fnFillIsTheGreedyPartitionSpec : ChangeSpec := { name := "fnFillIsTheGreedyPartition", fn := fun _ => fun
  | [d1, d2, d3] => { results := [.lit (.bool true)], args := [d1, d2, d3] }
  | _ => none }
def fnFillIsTheGreedyPartitionRow : OpenClaim := { program := "qxb6604122a", sum := "3bd3d2c3d76bc2f1206bb0ac95fadd8499f334da0f4262f1a2c91c52d642067d", func := "example.com/skyread/skyread/zzlaws_internal_air_b1.FnFillIsTheGreedyPartition", spec := "fnFillIsTheGreedyPartition", apart := false }
def FnFillIsTheGreedyPartitionSaid : Prop := fnFillIsTheGreedyPartitionRow.holds Try.pinned (OpenSpec.ofChange fnFillIsTheGreedyPartitionSpec)

/-- ITS FALSE NEIGHBOUR: 'it returns false'. Refute it at one input. -/
def fnFillIsTheGreedyPartitionWrong : ChangeSpec := { name := "fnFillIsTheGreedyPartition", fn := fun _ => fun
  | [d1, d2, d3] => { results := [.lit (.bool false)], args := [d1, d2, d3] }
  | _ => none }
def FnFillIsTheGreedyPartitionWrongFalsely : Prop := fnFillIsTheGreedyPartitionRow.holds Try.pinned (OpenSpec.ofChange fnFillIsTheGreedyPartitionWrong)

/-- 'zzlaws_internal_air_b1.FnWholeMatchesRunModel': WHATEVER THE INPUT: true; the input reads as it did. -/
def fnWholeMatchesRunModelSpec : ChangeSpec := { name := "fnWholeMatchesRunModel", fn := fun _ => fun
  | [d1, d2, d3] => { results := [.lit (.bool true)], args := [d1, d2, d3] }
  | _ => none }
def fnWholeMatchesRunModelRow : OpenClaim := { program := "qxb6604122a", sum := "3bd3d2c3d76bc2f1206bb0ac95fadd8499f334da0f4262f1a2c91c52d642067d", func := "example.com/skyread/skyread/zzlaws_internal_air_b1.FnWholeMatchesRunModel", spec := "fnWholeMatchesRunModel", apart := false }
def FnWholeMatchesRunModelSaid : Prop := fnWholeMatchesRunModelRow.holds Try.pinned (OpenSpec.ofChange fnWholeMatchesRunModelSpec)

/-- ITS FALSE NEIGHBOUR: 'it returns false'. Refute it at one input. -/
def fnWholeMatchesRunModelWrong : ChangeSpec := { name := "fnWholeMatchesRunModel", fn := fun _ => fun
  | [d1, d2, d3] => { results := [.lit (.bool false)], args := [d1, d2, d3] }
  | _ => none }
def FnWholeMatchesRunModelWrongFalsely : Prop := fnWholeMatchesRunModelRow.holds Try.pinned (OpenSpec.ofChange fnWholeMatchesRunModelWrong)

/-- 'zzlaws_internal_air_b1.FnAddKeepsTheLackingSetInOrder': WHATEVER THE INPUT: true; the input reads as it did. -/
def fnAddKeepsTheLackingSetInOrderSpec : ChangeSpec := { name := "fnAddKeepsTheLackingSetInOrder", fn := fun _ => fun
  | [d1, d2] => { results := [.lit (.bool true)], args := [d1, d2] }
  | _ => none }
def fnAddKeepsTheLackingSetInOrderRow : OpenClaim := { program := "qxb6604122a", sum := "3bd3d2c3d76bc2f1206bb0ac95fadd8499f334da0f4262f1a2c91c52d642067d", func := "example.com/skyread/skyread/zzlaws_internal_air_b1.FnAddKeepsTheLackingSetInOrder", spec := "fnAddKeepsTheLackingSetInOrder", apart := false }
def FnAddKeepsTheLackingSetInOrderSaid : Prop := fnAddKeepsTheLackingSetInOrderRow.holds Try.pinned (OpenSpec.ofChange fnAddKeepsTheLackingSetInOrderSpec)

/-- ITS FALSE NEIGHBOUR: 'it returns false'. Refute it at one input. -/
def fnAddKeepsTheLackingSetInOrderWrong : ChangeSpec := { name := "fnAddKeepsTheLackingSetInOrder", fn := fun _ => fun
  | [d1, d2] => { results := [.lit (.bool false)], args := [d1, d2] }
  | _ => none }
def FnAddKeepsTheLackingSetInOrderWrongFalsely : Prop := fnAddKeepsTheLackingSetInOrderRow.holds Try.pinned (OpenSpec.ofChange fnAddKeepsTheLackingSetInOrderWrong)

/-- 'zzlaws_internal_air_b1.FnAddScriptGathersDistinctSorted': WHATEVER THE INPUT: true; the input reads as it did. -/
def fnAddScriptGathersDistinctSortedSpec : ChangeSpec := { name := "fnAddScriptGathersDistinctSorted", fn := fun _ => fun
  | [d] => { results := [.lit (.bool true)], args := [d] }
  | _ => none }
def fnAddScriptGathersDistinctSortedRow : OpenClaim := { program := "qxb6604122a", sum := "3bd3d2c3d76bc2f1206bb0ac95fadd8499f334da0f4262f1a2c91c52d642067d", func := "example.com/skyread/skyread/zzlaws_internal_air_b1.FnAddScriptGathersDistinctSorted", spec := "fnAddScriptGathersDistinctSorted", apart := false }
def FnAddScriptGathersDistinctSortedSaid : Prop := fnAddScriptGathersDistinctSortedRow.holds Try.pinned (OpenSpec.ofChange fnAddScriptGathersDistinctSortedSpec)

/-- ITS FALSE NEIGHBOUR: 'it returns false'. Refute it at one input. -/
def fnAddScriptGathersDistinctSortedWrong : ChangeSpec := { name := "fnAddScriptGathersDistinctSorted", fn := fun _ => fun
  | [d] => { results := [.lit (.bool false)], args := [d] }
  | _ => none }
def FnAddScriptGathersDistinctSortedWrongFalsely : Prop := fnAddScriptGathersDistinctSortedRow.holds Try.pinned (OpenSpec.ofChange fnAddScriptGathersDistinctSortedWrong)

/-- 'zzlaws_internal_air_b1.FnAddTwiceIsAddOnce': WHATEVER THE INPUT: true; the input reads as it did. -/
def fnAddTwiceIsAddOnceSpec : ChangeSpec := { name := "fnAddTwiceIsAddOnce", fn := fun _ => fun
  | [d1, d2] => { results := [.lit (.bool true)], args := [d1, d2] }
  | _ => none }
def fnAddTwiceIsAddOnceRow : OpenClaim := { program := "qxb6604122a", sum := "3bd3d2c3d76bc2f1206bb0ac95fadd8499f334da0f4262f1a2c91c52d642067d", func := "example.com/skyread/skyread/zzlaws_internal_air_b1.FnAddTwiceIsAddOnce", spec := "fnAddTwiceIsAddOnce", apart := false }
def FnAddTwiceIsAddOnceSaid : Prop := fnAddTwiceIsAddOnceRow.holds Try.pinned (OpenSpec.ofChange fnAddTwiceIsAddOnceSpec)

/-- ITS FALSE NEIGHBOUR: 'it returns false'. Refute it at one input. -/
def fnAddTwiceIsAddOnceWrong : ChangeSpec := { name := "fnAddTwiceIsAddOnce", fn := fun _ => fun
  | [d1, d2] => { results := [.lit (.bool false)], args := [d1, d2] }
  | _ => none }
def FnAddTwiceIsAddOnceWrongFalsely : Prop := fnAddTwiceIsAddOnceRow.holds Try.pinned (OpenSpec.ofChange fnAddTwiceIsAddOnceWrong)

end Rows
end Go.Proofs.Qxb6604122a
