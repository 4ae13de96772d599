/-
  No cell of these rows narrows 'for every input' (looked for: loops, veiled, ifaces, maps, wideKeys, modest, calm, conditions, laid).
  DERIVED. THE GIVEN ROWS OF THIS SEAT. 2 by the template 'for every input the law returns true; each argument reads behind the call as it read before'; 0 by the template 'total and deterministic' (their statements: Qxb6627535aTotals.lean).
  GIVEN WITH THE SEED: the statements are not yours to turn. If you find one false, say at which input.
  Laid BY PROGRAM, IN A SANDBOX (cutbox-rows.mjs): the forced cells as the released guide's own fill.sh prints them over the translation 793872308da4f5d7… (all of the seat's roots in one cut). By AI agents, Wed Nov 11 2026. No macro, syntax, notation, axiom, sorry.
-/
import Derived.Test.Qxb6627535aChecked
import GoSem.Claim
import GoSem.ClaimJoined
import GoSem.ClaimMapViews
import Derived.JoinedTies
import Derived.KernelRfl
namespace Go.Proofs.Qxb6627535a
/- THE CELL 'sum', in the pinned program and in every row, IS THE sha256 OF THE DUMP (.gsa) THAT Qxb6627535aProg.lean LOADS. Nothing in Lean hashes anything: it is a label: what it is worth is what the hold of that sum in a sandbox is worth. -/
noncomputable def Try.pinned : Pinned := { name := "qxb6627535a", sum := "793872308da4f5d7702d711e8e4f56017b64aefb49c258c6fc3f36d38306f1f0", checked := Try.checked }
namespace Rows
def none {H : Type} : Left H := { results := [], args := [] }

/-- 'zzlaws_internal_ascii_b1.FnLowerConcatModel': WHATEVER THE INPUT: true; the input reads as it did. -/
def fnLowerConcatModelSpec : ChangeSpec := { name := "fnLowerConcatModel", fn := fun _ => fun
  | [d1, d2] => { results := [.lit (.bool true)], args := [d1, d2] }
  | _ => none }
def fnLowerConcatModelRow : OpenClaim := { program := "qxb6627535a", sum := "793872308da4f5d7702d711e8e4f56017b64aefb49c258c6fc3f36d38306f1f0", func := "example.com/collate/collate/zzlaws_internal_ascii_b1.FnLowerConcatModel", spec := "fnLowerConcatModel", apart := false }
def FnLowerConcatModelSaid : Prop := fnLowerConcatModelRow.holds Try.pinned (OpenSpec.ofChange fnLowerConcatModelSpec)

/-- ITS FALSE NEIGHBOUR: 'it returns false'. Refute it at one input. -/
def fnLowerConcatModelWrong : ChangeSpec := { name := "fnLowerConcatModel", fn := fun _ => fun
  | [d1, d2] => { results := [.lit (.bool false)], args := [d1, d2] }
  | _ => none }
def FnLowerConcatModelWrongFalsely : Prop := fnLowerConcatModelRow.holds Try.pinned (OpenSpec.ofChange fnLowerConcatModelWrong)

/-- 'zzlaws_internal_ascii_b1.FnLowerFoldKey': WHATEVER THE INPUT: true; the input reads as it did. -/
def fnLowerFoldKeySpec : ChangeSpec := { name := "fnLowerFoldKey", fn := fun _ => fun
  | [d1, d2] => { results := [.lit (.bool true)], args := [d1, d2] }
  | _ => none }
def fnLowerFoldKeyRow : OpenClaim := { program := "qxb6627535a", sum := "793872308da4f5d7702d711e8e4f56017b64aefb49c258c6fc3f36d38306f1f0", func := "example.com/collate/collate/zzlaws_internal_ascii_b1.FnLowerFoldKey", spec := "fnLowerFoldKey", apart := false }
def FnLowerFoldKeySaid : Prop := fnLowerFoldKeyRow.holds Try.pinned (OpenSpec.ofChange fnLowerFoldKeySpec)

/-- ITS FALSE NEIGHBOUR: 'it returns false'. Refute it at one input. -/
def fnLowerFoldKeyWrong : ChangeSpec := { name := "fnLowerFoldKey", fn := fun _ => fun
  | [d1, d2] => { results := [.lit (.bool false)], args := [d1, d2] }
  | _ => none }
def FnLowerFoldKeyWrongFalsely : Prop := fnLowerFoldKeyRow.holds Try.pinned (OpenSpec.ofChange fnLowerFoldKeyWrong)

end Rows
end Go.Proofs.Qxb6627535a
