/-
  No cell of these rows narrows 'for every input' (looked for: loops, veiled, ifaces, maps, wideKeys, modest, calm, conditions, laid).
  DERIVED. THE GIVEN ROWS OF THIS SEAT. 2 by the template 'for every input the law returns true; each argument reads behind the call as it read before'; 0 by the template 'total and deterministic' (their statements: Qxb6603882aTotals.lean).
  GIVEN WITH THE SEED: the statements are not yours to turn. If you find one false, say at which input.
  Laid BY PROGRAM, IN A SANDBOX (cutbox-rows.mjs): the forced cells as the released guide's own fill.sh prints them over the translation c2d3ac19d0594294… (all of the seat's roots in one cut). By AI agents, Wed Nov 11 2026. No macro, syntax, notation, axiom, sorry.
-/
import Derived.Test.Qxb6603882aChecked
import GoSem.Claim
import GoSem.ClaimJoined
import GoSem.ClaimMapViews
import Derived.JoinedTies
import Derived.KernelRfl
namespace Go.Proofs.Qxb6603882a
/- THE CELL 'sum', in the pinned program and in every row, IS THE sha256 OF THE DUMP (.gsa) THAT Qxb6603882aProg.lean LOADS. Nothing in Lean hashes anything: it is a label: what it is worth is what the hold of that sum in a sandbox is worth. -/
noncomputable def Try.pinned : Pinned := { name := "qxb6603882a", sum := "c2d3ac19d05942940e357bd33b2dec1884b5aa8c5d8d02639a1d57b8dd349266", checked := Try.checked }
namespace Rows
def none {H : Type} : Left H := { results := [], args := [] }

/-- 'zzlaws_root_b1.FnPrecedenceStrictChainAndFloor': WHATEVER THE INPUT: true; the input reads as it did. -/
def fnPrecedenceStrictChainAndFloorSpec : ChangeSpec := { name := "fnPrecedenceStrictChainAndFloor", fn := fun _ => fun
  | [d] => { results := [.lit (.bool true)], args := [d] }
  | _ => none }
def fnPrecedenceStrictChainAndFloorRow : OpenClaim := { program := "qxb6603882a", sum := "c2d3ac19d05942940e357bd33b2dec1884b5aa8c5d8d02639a1d57b8dd349266", func := "example.com/danelaw/danelaw/zzlaws_root_b1.FnPrecedenceStrictChainAndFloor", spec := "fnPrecedenceStrictChainAndFloor", apart := false }
def FnPrecedenceStrictChainAndFloorSaid : Prop := fnPrecedenceStrictChainAndFloorRow.holds Try.pinned (OpenSpec.ofChange fnPrecedenceStrictChainAndFloorSpec)

/-- ITS FALSE NEIGHBOUR: 'it returns false'. Refute it at one input. -/
def fnPrecedenceStrictChainAndFloorWrong : ChangeSpec := { name := "fnPrecedenceStrictChainAndFloor", fn := fun _ => fun
  | [d] => { results := [.lit (.bool false)], args := [d] }
  | _ => none }
def FnPrecedenceStrictChainAndFloorWrongFalsely : Prop := fnPrecedenceStrictChainAndFloorRow.holds Try.pinned (OpenSpec.ofChange fnPrecedenceStrictChainAndFloorWrong)

/-- 'zzlaws_root_b1.FnPrecedenceTopAndTies': WHATEVER THE INPUT: true; the input reads as it did. -/
def fnPrecedenceTopAndTiesSpec : ChangeSpec := { name := "fnPrecedenceTopAndTies", fn := fun _ => fun
  | [d1, d2] => { results := [.lit (.bool true)], args := [d1, d2] }
  | _ => none }
def fnPrecedenceTopAndTiesRow : OpenClaim := { program := "qxb6603882a", sum := "c2d3ac19d05942940e357bd33b2dec1884b5aa8c5d8d02639a1d57b8dd349266", func := "example.com/danelaw/danelaw/zzlaws_root_b1.FnPrecedenceTopAndTies", spec := "fnPrecedenceTopAndTies", apart := false }
def FnPrecedenceTopAndTiesSaid : Prop := fnPrecedenceTopAndTiesRow.holds Try.pinned (OpenSpec.ofChange fnPrecedenceTopAndTiesSpec)

/-- ITS FALSE NEIGHBOUR: 'it returns false'. Refute it at one input. -/
def fnPrecedenceTopAndTiesWrong : ChangeSpec := { name := "fnPrecedenceTopAndTies", fn := fun _ => fun
  | [d1, d2] => { results := [.lit (.bool false)], args := [d1, d2] }
  | _ => none }
def FnPrecedenceTopAndTiesWrongFalsely : Prop := fnPrecedenceTopAndTiesRow.holds Try.pinned (OpenSpec.ofChange fnPrecedenceTopAndTiesWrong)

end Rows
end Go.Proofs.Qxb6603882a
