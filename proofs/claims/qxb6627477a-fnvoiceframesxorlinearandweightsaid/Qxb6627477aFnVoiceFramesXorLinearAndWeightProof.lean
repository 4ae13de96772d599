/-
  The proof of 'Rows.FnVoiceFramesXorLinearAndWeightSaid', out of the walks in Qxb6627477aMain4.lean.
-/
import Derived.Test.Qxb6627477aRows
import Derived.Test.Qxb6627477aMain4
import Derived.Test.Qxb6627477aView
namespace Go.Proofs.Qxb6627477a.fnVoiceFramesXorLinearAndWeight
open Go.ChangeShapes Go.WideShapes Go.ChangeAt Go.RowKit
set_option linter.unusedVariables false

set_option maxRecDepth 100000 in
theorem lifted (os : Os) (started : os.Started) (H : Type) (enc : TypeId × Value → H) :
    ReturnsInHanded {} Try.checked os 4 .any (Rows.fnVoiceFramesXorLinearAndWeightSpec.pre6 enc Try.prog Try.f4 Rows.fnVoiceFramesXorLinearAndWeightRow.domain false) (Rows.fnVoiceFramesXorLinearAndWeightSpec.post enc Try.prog Try.f4 false true false false) := by
  refine returnsInHanded_of_change (C := Try.checked) own started (by kernel_rfl) Try.func4
    (ChangeSpec.witness6 (enc := enc) (C := Try.checked) false ⟨#[], #[.pointer none, .pointer none], []⟩ 8 (by kernel_rfl) (by kernel_rfl) (by kernel_rfl) (by kernel_rfl)) ?_
  intro W base args ds gs before hval0 hW hcnd _
  have hval : ∀ (j : Nat) t v, Try.f4.params[j]? = some t → args[j]? = some v → Value.okWide Try.prog W .any base t v := hval0
  have hW' := hW
  obtain ⟨p, q, hA0, hV, rfl, hfz, hnd⟩ := hW
  have hA : DataW.TrodAll enc Try.prog W 0 (fun _ => true) true Try.f4.params.toList args.toList ds p := hA0
  rw [Try.params4] at hA hval
  obtain ⟨v0, vs0, d0, ds0, p0, q0, hargs, rfl, rfl, h0, r0⟩ := trodAll_cons hA
  obtain ⟨v1, vs1, d1, ds1, p1, q1, rfl, rfl, rfl, h1, r1⟩ := trodAll_cons r0
  obtain ⟨rfl, rfl, rfl⟩ := trodAll_nil r1
  obtain rfl : args = #[v0, v1] := by cases args; simp_all
  obtain ⟨rfl, rfl⟩ := trodVars_none hV
  have x0 := view_ptr (hval 0 22 v0 rfl rfl) h0
  have x1 := view_ptr (hval 1 22 v1 rfl rfl) h1
  clear hA0 hval0
  simp only [List.append_nil] at hW'
  have hlt0 : ∀ x ∈ p0, x.block < W.heap.size := fun x hx => by simpa using hW'.lt x (by simp [hx])
  have hlt1 : ∀ x ∈ p1, x.block < W.heap.size := fun x hx => by simpa using hW'.lt x (by simp [hx])
  have fin : ∀ e W', e = Ending.returned (.bool true) ∧ Below W.heap.size W W' → ∃ v, e = Ending.returned v ∧ Rows.fnVoiceFramesXorLinearAndWeightSpec.post enc Try.checked.prog Try.f4 false true false false W #[v0, v1] v W' := fun e W' ⟨he, hg⟩ => by
    subst he
    have t0 := Below.trod Try.laidOut (by kernel_rfl) (of_decide_eq_true (by kernel_rfl)) h0 hg hlt0
    have t1 := Below.trod Try.laidOut (by kernel_rfl) (of_decide_eq_true (by kernel_rfl)) h1 hg hlt1
    exact ⟨_, rfl, post_of_below (pv := []) hW' (fun _ _ _ => (trodAll_cons_mk (shut_bool Try.underlying4 _) trodAll_mk0)) (trodAll_cons_mk t0 (trodAll_cons_mk t1 trodAll_mk0)) (fun _ => rfl) hg⟩
  have main : Calls Try.checked.prog 4 #[v0, v1] W fun e W' => e = Ending.returned (.bool true) ∧ Below W.heap.size W W' := by
    rcases x0 with rfl | ⟨bb, off, b, rfl, hb, hyb⟩
    · rcases x1 with rfl | ⟨ob, oo, o, rfl, ho, hyo⟩
      · exact nil4_l none W
      · exact nil4_l (some _) W
    · rcases x1 with rfl | ⟨ob, oo, o, rfl, ho, hyo⟩
      · exact nil4_r _ W
      · exact walk4 bb off ob oo b o W hb ho hyb hyo
  exact main.mono fin

theorem over : Rows.fnVoiceFramesXorLinearAndWeightRow.holds Try.pinned (OpenSpec.ofChange Rows.fnVoiceFramesXorLinearAndWeightSpec) :=
  OpenClaim.holds_of_wide 4 Try.f4 rfl rfl rfl rfl rfl rfl rfl ⟨rfl, rfl, rfl, rfl, rfl⟩ rfl rfl rfl rfl rfl (by kernel_rfl) Try.func4 (by kernel_rfl)
    (of_decide_eq_true (by kernel_rfl)) (by unfold Func.isWrapper; first | (rw [if_pos (by decide +kernel)]; kernel_rfl) | (rw [if_neg (by decide +kernel)]; exact ⟨rfl, rfl⟩))
    (fun os started H enc _ => lifted os started H enc)

theorem proved : Rows.FnVoiceFramesXorLinearAndWeightSaid :=
  over
end Go.Proofs.Qxb6627477a.fnVoiceFramesXorLinearAndWeight
