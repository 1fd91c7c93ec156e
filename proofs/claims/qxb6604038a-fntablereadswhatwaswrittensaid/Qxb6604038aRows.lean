/-
  No cell of these rows narrows 'for every input' (looked for: loops, veiled, ifaces, maps, wideKeys, modest, calm, conditions, laid).
  DERIVED. THE GIVEN ROWS OF THIS SEAT. 2 by the template 'for every input the law returns true; each argument reads behind the call as it read before'; 0 by the template 'total and deterministic' (their statements: Qxb6604038aTotals.lean).
  GIVEN WITH THE SEED: the statements are not yours to turn. If you find one false, say at which input.
  Laid BY PROGRAM, IN A SANDBOX (cutbox-rows.mjs): the forced cells as the released guide's own fill.sh prints them over the translation 87217d9e8982743c… (all of the seat's roots in one cut). By AI agents, Wed Nov 11 2026. No macro, syntax, notation, axiom, sorry.
-/
import Derived.Test.Qxb6604038aChecked
import GoSem.Claim
import GoSem.ClaimJoined
import GoSem.ClaimMapViews
import Derived.JoinedTies
import Derived.KernelRfl
namespace Go.Proofs.Qxb6604038a
/- THE CELL 'sum', in the pinned program and in every row, IS THE sha256 OF THE DUMP (.gsa) THAT Qxb6604038aProg.lean LOADS. Nothing in Lean hashes anything: it is a label: what it is worth is what the hold of that sum in a sandbox is worth. -/
noncomputable def Try.pinned : Pinned := { name := "qxb6604038a", sum := "87217d9e8982743cf0d705b537b785a28131c839b37d97b08038972e408f5eba", checked := Try.checked }
namespace Rows
def none {H : Type} : Left H := { results := [], args := [] }

/-- 'zzlaws_internal_sqltext_b1.FnCommentBounds': WHATEVER THE INPUT: true; the input reads as it did. -/
def fnCommentBoundsSpec : ChangeSpec := { name := "fnCommentBounds", fn := fun _ => fun
  | [d] => { results := [.lit (.bool true)], args := [d] }
  | _ => none }
def fnCommentBoundsRow : OpenClaim := { program := "qxb6604038a", sum := "87217d9e8982743cf0d705b537b785a28131c839b37d97b08038972e408f5eba", func := "example.com/rowtide/rowtide/zzlaws_internal_sqltext_b1.FnCommentBounds", spec := "fnCommentBounds", inPlace := ["internal/bytealg.IndexByteString", "internal/bytealg.IndexString"], named := ["internal/bytealg.MaxLen"], apart := false }
def FnCommentBoundsSaid : Prop := fnCommentBoundsRow.holds Try.pinned (OpenSpec.ofChange fnCommentBoundsSpec)

/-- ITS FALSE NEIGHBOUR: 'it returns false'. Refute it at one input. -/
def fnCommentBoundsWrong : ChangeSpec := { name := "fnCommentBounds", fn := fun _ => fun
  | [d] => { results := [.lit (.bool false)], args := [d] }
  | _ => none }
def FnCommentBoundsWrongFalsely : Prop := fnCommentBoundsRow.holds Try.pinned (OpenSpec.ofChange fnCommentBoundsWrong)

/-- 'zzlaws_internal_sqltext_b1.FnTableReadsWhatWasWritten': WHATEVER THE INPUT: true; the input reads as it did. -/
def fnTableReadsWhatWasWrittenSpec : ChangeSpec := { name := "fnTableReadsWhatWasWritten", fn := fun _ => fun
  | [d1, d2, d3, d4, d5, d6] => { results := [.lit (.bool true)], args := [d1, d2, d3, d4, d5, d6] }
  | _ => none }
def fnTableReadsWhatWasWrittenRow : OpenClaim := { program := "qxb6604038a", sum := "87217d9e8982743cf0d705b537b785a28131c839b37d97b08038972e408f5eba", func := "example.com/rowtide/rowtide/zzlaws_internal_sqltext_b1.FnTableReadsWhatWasWritten", spec := "fnTableReadsWhatWasWritten", apart := false }
def FnTableReadsWhatWasWrittenSaid : Prop := fnTableReadsWhatWasWrittenRow.holds Try.pinned (OpenSpec.ofChange fnTableReadsWhatWasWrittenSpec)

/-- ITS FALSE NEIGHBOUR: 'it returns false'. Refute it at one input. -/
def fnTableReadsWhatWasWrittenWrong : ChangeSpec := { name := "fnTableReadsWhatWasWritten", fn := fun _ => fun
  | [d1, d2, d3, d4, d5, d6] => { results := [.lit (.bool false)], args := [d1, d2, d3, d4, d5, d6] }
  | _ => none }
def FnTableReadsWhatWasWrittenWrongFalsely : Prop := fnTableReadsWhatWasWrittenRow.holds Try.pinned (OpenSpec.ofChange fnTableReadsWhatWasWrittenWrong)

end Rows
end Go.Proofs.Qxb6604038a
