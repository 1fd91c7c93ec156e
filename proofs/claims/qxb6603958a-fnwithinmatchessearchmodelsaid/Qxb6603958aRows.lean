/-
  No cell of these rows narrows 'for every input' (looked for: loops, veiled, ifaces, maps, wideKeys, modest, calm, conditions, laid).
  DERIVED. THE GIVEN ROWS OF THIS SEAT. 3 by the template 'for every input the law returns true; each argument reads behind the call as it read before'; 0 by the template 'total and deterministic' (their statements: Qxb6603958aTotals.lean).
  GIVEN WITH THE SEED: the statements are not yours to turn. If you find one false, say at which input.
  Laid BY PROGRAM, IN A SANDBOX (cutbox-rows.mjs): the forced cells as the released guide's own fill.sh prints them over the translation 9035bae8be599f18… (all of the seat's roots in one cut). By AI agents, Wed Nov 11 2026. No macro, syntax, notation, axiom, sorry.
-/
import Derived.Test.Qxb6603958aChecked
import GoSem.Claim
import GoSem.ClaimJoined
import GoSem.ClaimMapViews
import Derived.JoinedTies
import Derived.KernelRfl
namespace Go.Proofs.Qxb6603958a
/- THE CELL 'sum', in the pinned program and in every row, IS THE sha256 OF THE DUMP (.gsa) THAT Qxb6603958aProg.lean LOADS. Nothing in Lean hashes anything: it is a label: what it is worth is what the hold of that sum in a sandbox is worth. -/
noncomputable def Try.pinned : Pinned := { name := "qxb6603958a", sum := "9035bae8be599f18be64c998afd1c549f831760427ad9c8d0e427c66e6ea3c0c", checked := Try.checked }
namespace Rows
def none {H : Type} : Left H := { results := [], args := [] }

/-- 'zzlaws_internal_workload_b1.FnWithinMatchesSearchModel': WHATEVER THE INPUT: true; the input reads as it did. -/
def fnWithinMatchesSearchModelSpec : ChangeSpec := { name := "fnWithinMatchesSearchModel", fn := fun _ => fun
  | [d1, d2] => { results := [.lit (.bool true)], args := [d1, d2] }
  | _ => none }
def fnWithinMatchesSearchModelRow : OpenClaim := { program := "qxb6603958a", sum := "9035bae8be599f18be64c998afd1c549f831760427ad9c8d0e427c66e6ea3c0c", func := "example.com/chronolith/chronolith/zzlaws_internal_workload_b1.FnWithinMatchesSearchModel", spec := "fnWithinMatchesSearchModel", apart := false }
def FnWithinMatchesSearchModelSaid : Prop := fnWithinMatchesSearchModelRow.holds Try.pinned (OpenSpec.ofChange fnWithinMatchesSearchModelSpec)

/-- ITS FALSE NEIGHBOUR: 'it returns false'. Refute it at one input. -/
def fnWithinMatchesSearchModelWrong : ChangeSpec := { name := "fnWithinMatchesSearchModel", fn := fun _ => fun
  | [d1, d2] => { results := [.lit (.bool false)], args := [d1, d2] }
  | _ => none }
def FnWithinMatchesSearchModelWrongFalsely : Prop := fnWithinMatchesSearchModelRow.holds Try.pinned (OpenSpec.ofChange fnWithinMatchesSearchModelWrong)

/-- 'zzlaws_internal_workload_b1.FnEqualBalancesMatchesXorModel': WHATEVER THE INPUT: true; the input reads as it did. -/
def fnEqualBalancesMatchesXorModelSpec : ChangeSpec := { name := "fnEqualBalancesMatchesXorModel", fn := fun _ => fun
  | [d1, d2] => { results := [.lit (.bool true)], args := [d1, d2] }
  | _ => none }
def fnEqualBalancesMatchesXorModelRow : OpenClaim := { program := "qxb6603958a", sum := "9035bae8be599f18be64c998afd1c549f831760427ad9c8d0e427c66e6ea3c0c", func := "example.com/chronolith/chronolith/zzlaws_internal_workload_b1.FnEqualBalancesMatchesXorModel", spec := "fnEqualBalancesMatchesXorModel", apart := false }
def FnEqualBalancesMatchesXorModelSaid : Prop := fnEqualBalancesMatchesXorModelRow.holds Try.pinned (OpenSpec.ofChange fnEqualBalancesMatchesXorModelSpec)

/-- ITS FALSE NEIGHBOUR: 'it returns false'. Refute it at one input. -/
def fnEqualBalancesMatchesXorModelWrong : ChangeSpec := { name := "fnEqualBalancesMatchesXorModel", fn := fun _ => fun
  | [d1, d2] => { results := [.lit (.bool false)], args := [d1, d2] }
  | _ => none }
def FnEqualBalancesMatchesXorModelWrongFalsely : Prop := fnEqualBalancesMatchesXorModelRow.holds Try.pinned (OpenSpec.ofChange fnEqualBalancesMatchesXorModelWrong)

/-- 'zzlaws_internal_workload_b1.FnEqualBalancesIsEquivalence': WHATEVER THE INPUT: true; the input reads as it did. -/
def fnEqualBalancesIsEquivalenceSpec : ChangeSpec := { name := "fnEqualBalancesIsEquivalence", fn := fun _ => fun
  | [d1, d2, d3] => { results := [.lit (.bool true)], args := [d1, d2, d3] }
  | _ => none }
def fnEqualBalancesIsEquivalenceRow : OpenClaim := { program := "qxb6603958a", sum := "9035bae8be599f18be64c998afd1c549f831760427ad9c8d0e427c66e6ea3c0c", func := "example.com/chronolith/chronolith/zzlaws_internal_workload_b1.FnEqualBalancesIsEquivalence", spec := "fnEqualBalancesIsEquivalence", apart := false }
def FnEqualBalancesIsEquivalenceSaid : Prop := fnEqualBalancesIsEquivalenceRow.holds Try.pinned (OpenSpec.ofChange fnEqualBalancesIsEquivalenceSpec)

/-- ITS FALSE NEIGHBOUR: 'it returns false'. Refute it at one input. -/
def fnEqualBalancesIsEquivalenceWrong : ChangeSpec := { name := "fnEqualBalancesIsEquivalence", fn := fun _ => fun
  | [d1, d2, d3] => { results := [.lit (.bool false)], args := [d1, d2, d3] }
  | _ => none }
def FnEqualBalancesIsEquivalenceWrongFalsely : Prop := fnEqualBalancesIsEquivalenceRow.holds Try.pinned (OpenSpec.ofChange fnEqualBalancesIsEquivalenceWrong)

end Rows
end Go.Proofs.Qxb6603958a
