import Derived.Test.Qxb6627477aFrames
import Derived.ProofKit
import Derived.OpenShut
namespace Go.Proofs.Qxb6627477a
open Go.RowKit Go.ChangeShapes Go.WideShapes Go.ChangeAt
set_option linter.unusedVariables false

theorem Try.laidOut : laidOutB Try.prog = true := by kernel_rfl
theorem Try.cells23 : Try.prog.cellsOf 23 = 33 := by kernel_rfl
theorem Try.cells5 : Try.prog.cellsOf 5 = 1 := by kernel_rfl
theorem own : ownKnob Try.prog.godebug = none := by kernel_rfl

theorem post_of_below {H : Type} {enc : TypeId × Value → H} {P : Program} {f : Func} {s : ChangeSpec} {apart fresh handsOn : Bool} {W W' : World} {args : Array Value} {v : Value} {ds gs : List (DataW H)} {before pa pv : List MemPlace}
    (hW : DataW.Whole enc P f.params.toList s.vars apart W args.toList ds gs before)
    (hres : ∀ (b : Nat) (sp : Nat → Bool) (hd : Bool), DataW.TrodAll enc P W' b sp hd f.resultTypes.toList (v.resultList f.resultTypes.size) (s.fn H (ds ++ gs)).results [])
    (hargs : DataW.TrodAll enc P W' 0 (fun b => decide (b < W.heap.size)) true f.params.toList args.toList (s.fn H (ds ++ gs)).args pa)
    (hvars : ∀ sp : Nat → Bool, DataW.TrodVars enc P W' sp s.vars (s.fn H (ds ++ gs)).vars pv)
    (hb : Below W.heap.size W W') : s.post enc P f apart fresh handsOn false W args v W' :=
  ⟨ds, gs, before, [], pa, pv, hW, hres _ _ _, hargs, hvars _, hb.frame _, fun h => by cases h⟩

/-- The byte that a cell holds. -/
def byteOf : Option Value → Nat
  | some (.int _ n) => n.toNat
  | _ => 0

theorem view_ptr {H : Type} {enc : TypeId × Value → H} {W : World} {base : Nat} {v : Value} {d : DataW H} {ps : List MemPlace} (hval : Value.okWide Try.prog W .any base 22 v) (h : DataW.Trod enc Try.prog W 0 (fun _ => true) true 22 v d ps) :
    v = .pointer none ∨ ∃ bb off b, v = .pointer (some ⟨bb, off, none⟩) ∧ Burst W bb off b ∧ Bytes b := by
  rcases Go.ChangeShapes.open_ptr Try.underlying22 (by rw [Try.cells23]; omega) hval h with ⟨h1, _, _⟩ | ⟨b, off, cs, y, fuel, h1, _, _, hlen, hcell, hy⟩
  · exact .inl h1
  · right
    obtain ⟨xs, m, _, _, hl, hx, hel⟩ := DataW.trod_array Try.underlying23 hy
    rw [Try.cells23] at hlen hcell
    have hb : ∀ i, i < 33 → ∃ n : Int, cs[i]? = some (.int .u8 n) ∧ 0 ≤ n ∧ n < 256 := fun i hi => by
      have h2 := hel i hi
      rw [Try.cells5, Nat.mul_one, List.getElem?_eq_getElem (by omega)] at h2
      obtain ⟨n, e1, _, hw⟩ := DataW.trod_int Try.underlying5 h2
      refine ⟨n, ?_, ?_⟩
      · have e2 : ((cs.drop i).take 1)[0]? = some (.int .u8 n) := by rw [e1]; rfl
        simpa [List.getElem?_take, List.getElem?_drop] using e2
      · simp [Lit.wf, IntKind.min, IntKind.max, IntKind.signed, IntKind.bits] at hw
        omega
    refine ⟨b, off, fun i => byteOf cs[i]?, h1, fun j hj => ?_, fun j hj => ?_⟩
    · obtain ⟨n, e1, n0, n1⟩ := hb j hj
      have e3 : byteOf cs[j]? = n.toNat := by rw [e1]; rfl
      show W.cell? ⟨b, off + j, none⟩ = some (.int .u8 ((byteOf cs[j]? : Nat) : Int))
      rw [hcell j hj, e3, Int.toNat_of_nonneg n0, e1]
    · obtain ⟨n, e1, n0, n1⟩ := hb j hj
      have e3 : byteOf cs[j]? = n.toNat := by rw [e1]; rfl
      show byteOf cs[j]? < 256
      rw [e3]
      omega
end Go.Proofs.Qxb6627477a
