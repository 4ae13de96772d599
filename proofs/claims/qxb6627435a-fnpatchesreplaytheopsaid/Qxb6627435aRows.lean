/-
  No cell of these rows narrows 'for every input' (looked for: loops, veiled, ifaces, maps, wideKeys, modest, calm, conditions, laid).
  DERIVED. THE GIVEN ROWS OF THIS SEAT. 2 by the template 'for every input the law returns true; each argument reads behind the call as it read before'; 0 by the template 'total and deterministic' (their statements: Qxb6627435aTotals.lean).
  GIVEN WITH THE SEED: the statements are not yours to turn. If you find one false, say at which input.
  Laid BY PROGRAM, IN A SANDBOX (cutbox-rows.mjs): the forced cells as the released guide's own fill.sh prints them over the translation 49ce99c93daf784e… (all of the seat's roots in one cut). By AI agents, Wed Nov 11 2026. No macro, syntax, notation, axiom, sorry.
-/
import Derived.Test.Qxb6627435aChecked
import GoSem.Claim
import GoSem.ClaimJoined
import GoSem.ClaimMapViews
import Derived.JoinedTies
import Derived.KernelRfl
namespace Go.Proofs.Qxb6627435a
/- THE CELL 'sum', in the pinned program and in every row, IS THE sha256 OF THE DUMP (.gsa) THAT Qxb6627435aProg.lean LOADS. Nothing in Lean hashes anything: it is a label: what it is worth is what the hold of that sum in a sandbox is worth. -/
noncomputable def Try.pinned : Pinned := { name := "qxb6627435a", sum := "49ce99c93daf784ee85c362d325d736a2f1f10d8d23090a2e76c01f956fbc53b", checked := Try.checked }
namespace Rows
def none {H : Type} : Left H := { results := [], args := [] }

/-- 'zzlaws_internal_textop_b1.FnPatchesReplayTheOp': WHATEVER THE INPUT: true; the input reads as it did. -/
def fnPatchesReplayTheOpSpec : ChangeSpec := { name := "fnPatchesReplayTheOp", fn := fun _ => fun
  | [d1, d2] => { results := [.lit (.bool true)], args := [d1, d2] }
  | _ => none }
def fnPatchesReplayTheOpRow : OpenClaim := { program := "qxb6627435a", sum := "49ce99c93daf784ee85c362d325d736a2f1f10d8d23090a2e76c01f956fbc53b", func := "example.com/sequent/sequent/zzlaws_internal_textop_b1.FnPatchesReplayTheOp", spec := "fnPatchesReplayTheOp", apart := false }
def FnPatchesReplayTheOpSaid : Prop := fnPatchesReplayTheOpRow.holds Try.pinned (OpenSpec.ofChange fnPatchesReplayTheOpSpec)

/-- ITS FALSE NEIGHBOUR: 'it returns false'. Refute it at one input. -/
def fnPatchesReplayTheOpWrong : ChangeSpec := { name := "fnPatchesReplayTheOp", fn := fun _ => fun
  | [d1, d2] => { results := [.lit (.bool false)], args := [d1, d2] }
  | _ => none }
def FnPatchesReplayTheOpWrongFalsely : Prop := fnPatchesReplayTheOpRow.holds Try.pinned (OpenSpec.ofChange fnPatchesReplayTheOpWrong)

/-- 'zzlaws_internal_textop_b1.FnPatchesKeepTheBooks': WHATEVER THE INPUT: true; the input reads as it did. -/
def fnPatchesKeepTheBooksSpec : ChangeSpec := { name := "fnPatchesKeepTheBooks", fn := fun _ => fun
  | [d1, d2] => { results := [.lit (.bool true)], args := [d1, d2] }
  | _ => none }
def fnPatchesKeepTheBooksRow : OpenClaim := { program := "qxb6627435a", sum := "49ce99c93daf784ee85c362d325d736a2f1f10d8d23090a2e76c01f956fbc53b", func := "example.com/sequent/sequent/zzlaws_internal_textop_b1.FnPatchesKeepTheBooks", spec := "fnPatchesKeepTheBooks", apart := false }
def FnPatchesKeepTheBooksSaid : Prop := fnPatchesKeepTheBooksRow.holds Try.pinned (OpenSpec.ofChange fnPatchesKeepTheBooksSpec)

/-- ITS FALSE NEIGHBOUR: 'it returns false'. Refute it at one input. -/
def fnPatchesKeepTheBooksWrong : ChangeSpec := { name := "fnPatchesKeepTheBooks", fn := fun _ => fun
  | [d1, d2] => { results := [.lit (.bool false)], args := [d1, d2] }
  | _ => none }
def FnPatchesKeepTheBooksWrongFalsely : Prop := fnPatchesKeepTheBooksRow.holds Try.pinned (OpenSpec.ofChange fnPatchesKeepTheBooksWrong)

end Rows
end Go.Proofs.Qxb6627435a
