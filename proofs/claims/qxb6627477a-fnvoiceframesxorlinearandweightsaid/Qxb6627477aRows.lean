/-
  No cell of these rows narrows 'for every input' (looked for: loops, veiled, ifaces, maps, wideKeys, modest, calm, conditions, laid).
  DERIVED. THE GIVEN ROWS OF THIS SEAT. 2 by the template 'for every input the law returns true; each argument reads behind the call as it read before'; 0 by the template 'total and deterministic' (their statements: Qxb6627477aTotals.lean).
  GIVEN WITH THE SEED: the statements are not yours to turn. If you find one false, say at which input.
  Laid BY PROGRAM, IN A SANDBOX (cutbox-rows.mjs): the forced cells as the released guide's own fill.sh prints them over the translation e5c3a62e504286a1… (all of the seat's roots in one cut). By AI agents, Wed Nov 11 2026. No macro, syntax, notation, axiom, sorry.
-/
import Derived.Test.Qxb6627477aChecked
import GoSem.Claim
import GoSem.ClaimJoined
import GoSem.ClaimMapViews
import Derived.JoinedTies
import Derived.KernelRfl
namespace Go.Proofs.Qxb6627477a
/- THE CELL 'sum', in the pinned program and in every row, IS THE sha256 OF THE DUMP (.gsa) THAT Qxb6627477aProg.lean LOADS. Nothing in Lean hashes anything: it is a label: what it is worth is what the hold of that sum in a sandbox is worth. -/
noncomputable def Try.pinned : Pinned := { name := "qxb6627477a", sum := "e5c3a62e504286a1fe170a3d0d6c23ca817711fb3a3a7a12c0f341b5a8fa19ad", checked := Try.checked }
namespace Rows
def none {H : Type} : Left H := { results := [], args := [] }

/-- 'zzlaws_dmr_b1.FnVoiceFramesByteLayoutIgnoresMiddle': WHATEVER THE INPUT: true; the input reads as it did. -/
def fnVoiceFramesByteLayoutIgnoresMiddleSpec : ChangeSpec := { name := "fnVoiceFramesByteLayoutIgnoresMiddle", fn := fun _ => fun
  | [d1, d2] => { results := [.lit (.bool true)], args := [d1, d2] }
  | _ => none }
def fnVoiceFramesByteLayoutIgnoresMiddleRow : OpenClaim := { program := "qxb6627477a", sum := "e5c3a62e504286a1fe170a3d0d6c23ca817711fb3a3a7a12c0f341b5a8fa19ad", func := "example.com/interlink/interlink/zzlaws_dmr_b1.FnVoiceFramesByteLayoutIgnoresMiddle", spec := "fnVoiceFramesByteLayoutIgnoresMiddle", apart := false }
def FnVoiceFramesByteLayoutIgnoresMiddleSaid : Prop := fnVoiceFramesByteLayoutIgnoresMiddleRow.holds Try.pinned (OpenSpec.ofChange fnVoiceFramesByteLayoutIgnoresMiddleSpec)

/-- ITS FALSE NEIGHBOUR: 'it returns false'. Refute it at one input. -/
def fnVoiceFramesByteLayoutIgnoresMiddleWrong : ChangeSpec := { name := "fnVoiceFramesByteLayoutIgnoresMiddle", fn := fun _ => fun
  | [d1, d2] => { results := [.lit (.bool false)], args := [d1, d2] }
  | _ => none }
def FnVoiceFramesByteLayoutIgnoresMiddleWrongFalsely : Prop := fnVoiceFramesByteLayoutIgnoresMiddleRow.holds Try.pinned (OpenSpec.ofChange fnVoiceFramesByteLayoutIgnoresMiddleWrong)

/-- 'zzlaws_dmr_b1.FnVoiceFramesXorLinearAndWeight': WHATEVER THE INPUT: true; the input reads as it did. -/
def fnVoiceFramesXorLinearAndWeightSpec : ChangeSpec := { name := "fnVoiceFramesXorLinearAndWeight", fn := fun _ => fun
  | [d1, d2] => { results := [.lit (.bool true)], args := [d1, d2] }
  | _ => none }
def fnVoiceFramesXorLinearAndWeightRow : OpenClaim := { program := "qxb6627477a", sum := "e5c3a62e504286a1fe170a3d0d6c23ca817711fb3a3a7a12c0f341b5a8fa19ad", func := "example.com/interlink/interlink/zzlaws_dmr_b1.FnVoiceFramesXorLinearAndWeight", spec := "fnVoiceFramesXorLinearAndWeight", apart := false }
def FnVoiceFramesXorLinearAndWeightSaid : Prop := fnVoiceFramesXorLinearAndWeightRow.holds Try.pinned (OpenSpec.ofChange fnVoiceFramesXorLinearAndWeightSpec)

/-- ITS FALSE NEIGHBOUR: 'it returns false'. Refute it at one input. -/
def fnVoiceFramesXorLinearAndWeightWrong : ChangeSpec := { name := "fnVoiceFramesXorLinearAndWeight", fn := fun _ => fun
  | [d1, d2] => { results := [.lit (.bool false)], args := [d1, d2] }
  | _ => none }
def FnVoiceFramesXorLinearAndWeightWrongFalsely : Prop := fnVoiceFramesXorLinearAndWeightRow.holds Try.pinned (OpenSpec.ofChange fnVoiceFramesXorLinearAndWeightWrong)

end Rows
end Go.Proofs.Qxb6627477a
