import Derived.Test.Qxb6627498aWalkC
import Derived.ProofKit
namespace Go.Proofs.Qxb6627498a
open Go.RowKit Go.Lib Go.ChangeShapes Go.WideShapes
open Plain (upI loI upB key NoLow FoldEq lowN)
set_option linter.unusedVariables false

theorem below_drewN {B : Nat} {a w : World} (h : Below B a w) (n : Nat) : Below B a (w.drewN n) := ⟨h.os, h.tape, h.output, h.size, h.block⟩

theorem post_of_below {H : Type} {enc : TypeId × Value → H} {P : Program} {f : Func} {s : ChangeSpec} {apart fresh handsOn : Bool} {W W' : World} {args : Array Value} {v : Value} {ds gs : List (DataW H)} {before pa pv : List MemPlace}
    (hW : DataW.Whole enc P f.params.toList s.vars apart W args.toList ds gs before)
    (hres : ∀ (b : Nat) (sp : Nat → Bool) (hd : Bool), DataW.TrodAll enc P W' b sp hd f.resultTypes.toList (v.resultList f.resultTypes.size) (s.fn H (ds ++ gs)).results [])
    (hargs : ∀ sp : Nat → Bool, DataW.TrodAll enc P W' 0 sp true f.params.toList args.toList (s.fn H (ds ++ gs)).args pa)
    (hvars : ∀ sp : Nat → Bool, DataW.TrodVars enc P W' sp s.vars (s.fn H (ds ++ gs)).vars pv)
    (hb : Below W.heap.size W W') : s.post enc P f apart fresh handsOn false W args v W' :=
  ⟨ds, gs, before, [], pa, pv, hW, hres _ _ _, hargs _, hvars _, hb.frame _, fun h => by cases h⟩

theorem list_ne {a b : ByteArray} (h : a ≠ b) : (!(a.toList == b.toList)) = true := by
  have e : ¬ a.toList = b.toList := fun e => h (by
    rw [Lib.toList_data, Lib.toList_data] at e
    cases a; cases b
    simpa using e)
  simp [e]

set_option maxHeartbeats 1000000 in
set_option maxRecDepth 1000000 in
theorem walk3 (a b : ByteArray) (ha : a.size ≤ maxLen) (hb : b.size ≤ maxLen) (w : World) :
    Calls Try.prog 3 #[.string a, .string b] w fun e w' => e = .returned (.bool true) ∧ Below w.heap.size w w' := by
  have hka : (key a).size ≤ maxLen := by rw [Plain.key_size]; exact ha
  have hkb : (key b).size ≤ maxLen := by rw [Plain.key_size]; exact hb
  go_enter Try.func3, Try.ntmps3
  go_wp2_with fail
  refine (bytes5 a b _ ha hb).mono ?_
  rintro e w1 ⟨⟨r, rfl⟩, rfl⟩
  cases r
  · go_wp2
    go_ret
    exact ⟨rfl, Below.refl _ _⟩
  by_cases h1 : 65536 < (a.size : Int)
  · go_wp2
    go_ret
    exact ⟨rfl, Below.refl _ _⟩
  by_cases h2 : 65536 < (b.size : Int)
  · go_wp2
    go_ret
    exact ⟨rfl, Below.refl _ _⟩
  go_wp2_with fail
  refine (codeKey_any a _ ha).mono ?_
  rintro e w2 ⟨rfl, b2⟩
  go_wp2_with fail
  refine (codeKey_any b _ hb).mono ?_
  rintro e w3 ⟨rfl, b3⟩
  go_wp2_with fail
  refine (fold_yes (key a) a _ hka ha (Plain.foldEq_key a)).mono ?_
  rintro e w4 ⟨rfl, n4, rfl⟩
  go_wp2_with fail
  refine (hasLow_no (key a) _ hka (Plain.key_noLow a)).mono ?_
  rintro e w5 ⟨rfl, rfl⟩
  go_wp2_with fail
  refine (fold_yes (key b) b _ hkb hb (Plain.foldEq_key b)).mono ?_
  rintro e w6 ⟨rfl, n6, rfl⟩
  go_wp2_with fail
  refine (hasLow_no (key b) _ hkb (Plain.key_noLow b)).mono ?_
  rintro e w7 ⟨rfl, rfl⟩
  by_cases hF : FoldEq a b
  · have HE : Hid (((key a).toList == (key b).toList) = true) := by show _ = true; rw [(Plain.key_eq_iff a b).2 hF]; simp
    have HF : Hid (FoldEq a b) := hF
    clear hF
    go_wp2_with fail
    refine (fold_yes a b _ ha hb HF.out).mono ?_
    rintro e w8 ⟨rfl, n8, rfl⟩
    go_wp2
    go_ret
    exact ⟨ret_bool HE.out, below_drewN (b2.trans (b3.mono b2.size)) _⟩
  · have HE : Hid ((!((key a).toList == (key b).toList)) = true) := list_ne fun h => hF ((Plain.key_eq_iff a b).1 h)
    have HF : Hid (¬ FoldEq a b) := hF
    clear hF
    go_wp2_with fail
    refine (fold_no a b _ ha hb HF.out).mono ?_
    rintro e w8 ⟨rfl, n8, rfl⟩
    go_wp2
    go_ret
    exact ⟨ret_bool HE.out, below_drewN (b2.trans (b3.mono b2.size)) _⟩
end Go.Proofs.Qxb6627498a
