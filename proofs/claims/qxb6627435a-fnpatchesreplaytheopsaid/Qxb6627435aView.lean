import Derived.Test.Qxb6627435aCopy
import Derived.ProofKit
import Derived.OpenShut
namespace Go.Proofs.Qxb6627435a
open Go.RowKit Go.ChangeShapes Go.WideShapes Go.ChangeAt
set_option linter.unusedVariables false

theorem Try.laidOut : laidOutB Try.prog = true := by kernel_rfl
theorem Try.cells3 : Try.prog.cellsOf 3 = 1 := by kernel_rfl
theorem Try.cells9 : Try.prog.cellsOf 9 = 1 := by kernel_rfl
theorem own : ownKnob Try.prog.godebug = none := by kernel_rfl

theorem post_of_below {H : Type} {enc : TypeId × Value → H} {P : Program} {f : Func} {s : ChangeSpec} {apart fresh handsOn : Bool} {W W' : World} {args : Array Value} {v : Value} {ds gs : List (DataW H)} {before pa pv : List MemPlace}
    (hW : DataW.Whole enc P f.params.toList s.vars apart W args.toList ds gs before)
    (hres : ∀ (b : Nat) (sp : Nat → Bool) (hd : Bool), DataW.TrodAll enc P W' b sp hd f.resultTypes.toList (v.resultList f.resultTypes.size) (s.fn H (ds ++ gs)).results [])
    (hargs : DataW.TrodAll enc P W' 0 (fun b => decide (b < W.heap.size)) true f.params.toList args.toList (s.fn H (ds ++ gs)).args pa)
    (hvars : ∀ sp : Nat → Bool, DataW.TrodVars enc P W' sp s.vars (s.fn H (ds ++ gs)).vars pv)
    (hb : Below W.heap.size W W') : s.post enc P f apart fresh handsOn false W args v W' :=
  ⟨ds, gs, before, [], pa, pv, hW, hres _ _ _, hargs, hvars _, hb.frame _, fun h => by cases h⟩

theorem view_ints {H : Type} {enc : TypeId × Value → H} {W : World} {a0 : Option Addr} {len cap : Nat} {d : DataW H} {p : List MemPlace} (h : DataW.Trod enc Try.prog W 0 (fun _ => true) true 22 (.slice a0 len cap) d p) :
    ∃ ns : List Int, ns.length = len ∧ len ≤ 9223372036854775807 ∧ Reads W a0 (ints ns) := by
  obtain ⟨fuel, hf⟩ := h
  rcases open_ints Try.underlying22 Try.underlying3 Try.cells3 hf with ⟨hcs, hx⟩ | ⟨a, len', cap', zs, hcs, _, hl, hm, hz, hx, hcell, hwz⟩
  · simp [Value.cells] at hcs
    obtain ⟨rfl, rfl, rfl⟩ := hcs
    exact ⟨[], rfl, by omega, fun j hj => by simp [ints] at hj⟩
  · simp [Value.cells] at hcs
    obtain ⟨rfl, rfl, rfl⟩ := hcs
    simp only [if_true] at hz
    unfold maxLen at hm
    refine ⟨zs.take len, by simp; omega, by omega, Reads.of_cells fun j hj => ?_⟩
    have hj' : j < len ∧ j < zs.length := by
      have := hj
      simp [ints] at this
      omega
    rw [hcell j hj'.2]
    simp [ints, hj'.2]
theorem view_strs {H : Type} {enc : TypeId × Value → H} {W : World} {a0 : Option Addr} {len cap : Nat} {d : DataW H} {p : List MemPlace} (h : DataW.Trod enc Try.prog W 0 (fun _ => true) true 23 (.slice a0 len cap) d p) :
    ∃ ss : List ByteArray, ss.length = len ∧ len ≤ 9223372036854775807 ∧ Reads W a0 (strs ss) ∧ ∀ s ∈ ss, s.size ≤ maxLen := by
  obtain ⟨fuel, hf⟩ := h
  rcases open_strings Try.underlying23 Try.underlying9 Try.cells9 hf with ⟨hcs, hx⟩ | ⟨a, len', cap', zs, hcs, _, hl, hm, hz, hx, hcell, hwz⟩
  · simp [Value.cells] at hcs
    obtain ⟨rfl, rfl, rfl⟩ := hcs
    exact ⟨[], rfl, by omega, fun j hj => by simp [strs] at hj, fun s hs => by simp at hs⟩
  · simp [Value.cells] at hcs
    obtain ⟨rfl, rfl, rfl⟩ := hcs
    simp only [if_true] at hz
    have hm' := hm
    unfold maxLen at hm'
    refine ⟨zs.take len, by simp; omega, by omega, Reads.of_cells fun j hj => ?_, fun s hs => hwz s (List.mem_of_mem_take hs)⟩
    have hj' : j < len ∧ j < zs.length := by
      have := hj
      simp [strs] at this
      omega
    rw [hcell j hj'.2]
    simp [strs, hj'.2]
end Go.Proofs.Qxb6627435a
