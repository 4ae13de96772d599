/-
  No cell of these rows narrows 'for every input' (looked for: loops, veiled, ifaces, maps, wideKeys, modest, calm, conditions, laid).
  DERIVED. THE GIVEN ROWS OF THIS SEAT. 2 by the template 'for every input the law returns true; each argument reads behind the call as it read before'; 0 by the template 'total and deterministic' (their statements: Qxb6627498aTotals.lean).
  GIVEN WITH THE SEED: the statements are not yours to turn. If you find one false, say at which input.
  Laid BY PROGRAM, IN A SANDBOX (cutbox-rows.mjs): the forced cells as the released guide's own fill.sh prints them over the translation 33aad517da28cd81… (all of the seat's roots in one cut). By AI agents, Wed Nov 11 2026. No macro, syntax, notation, axiom, sorry.
-/
import Derived.Test.Qxb6627498aChecked
import GoSem.Claim
import GoSem.ClaimJoined
import GoSem.ClaimMapViews
import Derived.JoinedTies
import Derived.KernelRfl
namespace Go.Proofs.Qxb6627498a
/- THE CELL 'sum', in the pinned program and in every row, IS THE sha256 OF THE DUMP (.gsa) THAT Qxb6627498aProg.lean LOADS. Nothing in Lean hashes anything: it is a label: what it is worth is what the hold of that sum in a sandbox is worth. -/
noncomputable def Try.pinned : Pinned := { name := "qxb6627498a", sum := "33aad517da28cd816acbc2035f1c2db0e22833372906cabbb17a7bc6b70d1d99", checked := Try.checked }
namespace Rows
def none {H : Type} : Left H := { results := [], args := [] }

/-- 'zzlaws_terms_b1.FnCodeKeyMatchesAsciiFold': WHATEVER THE INPUT: true; the input reads as it did. -/
def fnCodeKeyMatchesAsciiFoldSpec : ChangeSpec := { name := "fnCodeKeyMatchesAsciiFold", fn := fun _ => fun
  | [d1, d2] => { results := [.lit (.bool true)], args := [d1, d2] }
  | _ => none }
def fnCodeKeyMatchesAsciiFoldRow : OpenClaim := { program := "qxb6627498a", sum := "33aad517da28cd816acbc2035f1c2db0e22833372906cabbb17a7bc6b70d1d99", func := "example.com/zhaomu/zhaomu/zzlaws_terms_b1.FnCodeKeyMatchesAsciiFold", spec := "fnCodeKeyMatchesAsciiFold", unfollowed := true, recurses := true, apart := false }
def FnCodeKeyMatchesAsciiFoldSaid : Prop := fnCodeKeyMatchesAsciiFoldRow.holds Try.pinned (OpenSpec.ofChange fnCodeKeyMatchesAsciiFoldSpec)

/-- ITS FALSE NEIGHBOUR: 'it returns false'. Refute it at one input. -/
def fnCodeKeyMatchesAsciiFoldWrong : ChangeSpec := { name := "fnCodeKeyMatchesAsciiFold", fn := fun _ => fun
  | [d1, d2] => { results := [.lit (.bool false)], args := [d1, d2] }
  | _ => none }
def FnCodeKeyMatchesAsciiFoldWrongFalsely : Prop := fnCodeKeyMatchesAsciiFoldRow.holds Try.pinned (OpenSpec.ofChange fnCodeKeyMatchesAsciiFoldWrong)

/-- 'zzlaws_terms_b1.FnCodeKeyCutAndIdempotent': WHATEVER THE INPUT: true; the input reads as it did. -/
def fnCodeKeyCutAndIdempotentSpec : ChangeSpec := { name := "fnCodeKeyCutAndIdempotent", fn := fun _ => fun
  | [d1, d2] => { results := [.lit (.bool true)], args := [d1, d2] }
  | _ => none }
def fnCodeKeyCutAndIdempotentRow : OpenClaim := { program := "qxb6627498a", sum := "33aad517da28cd816acbc2035f1c2db0e22833372906cabbb17a7bc6b70d1d99", func := "example.com/zhaomu/zhaomu/zzlaws_terms_b1.FnCodeKeyCutAndIdempotent", spec := "fnCodeKeyCutAndIdempotent", unfollowed := true, recurses := true, apart := false }
def FnCodeKeyCutAndIdempotentSaid : Prop := fnCodeKeyCutAndIdempotentRow.holds Try.pinned (OpenSpec.ofChange fnCodeKeyCutAndIdempotentSpec)

/-- ITS FALSE NEIGHBOUR: 'it returns false'. Refute it at one input. -/
def fnCodeKeyCutAndIdempotentWrong : ChangeSpec := { name := "fnCodeKeyCutAndIdempotent", fn := fun _ => fun
  | [d1, d2] => { results := [.lit (.bool false)], args := [d1, d2] }
  | _ => none }
def FnCodeKeyCutAndIdempotentWrongFalsely : Prop := fnCodeKeyCutAndIdempotentRow.holds Try.pinned (OpenSpec.ofChange fnCodeKeyCutAndIdempotentWrong)

end Rows
end Go.Proofs.Qxb6627498a
