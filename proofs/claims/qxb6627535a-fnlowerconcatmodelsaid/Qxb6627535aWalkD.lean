import Derived.Test.Qxb6627535aWalkB
import Derived.Test.Qxb6627535aWalkC
import Derived.ProofKit
namespace Go.Proofs.Qxb6627535a
open Go.RowKit Go.ChangeShapes Go.WideShapes
open Plain (loI low NoUp FoldEq)
set_option linter.unusedVariables false

theorem below_drewN {B : Nat} {a w : World} (h : Below B a w) (n : Nat) : Below B a (w.drewN n) := ⟨h.os, h.tape, h.output, h.size, h.block⟩

theorem post_of_below {H : Type} {enc : TypeId × Value → H} {P : Program} {f : Func} {s : ChangeSpec} {apart fresh handsOn : Bool} {W W' : World} {args : Array Value} {v : Value} {ds gs : List (DataW H)} {before pa pv : List MemPlace}
    (hW : DataW.Whole enc P f.params.toList s.vars apart W args.toList ds gs before)
    (hres : ∀ (b : Nat) (sp : Nat → Bool) (hd : Bool), DataW.TrodAll enc P W' b sp hd f.resultTypes.toList (v.resultList f.resultTypes.size) (s.fn H (ds ++ gs)).results [])
    (hargs : ∀ sp : Nat → Bool, DataW.TrodAll enc P W' 0 sp true f.params.toList args.toList (s.fn H (ds ++ gs)).args pa)
    (hvars : ∀ sp : Nat → Bool, DataW.TrodVars enc P W' sp s.vars (s.fn H (ds ++ gs)).vars pv)
    (hb : Below W.heap.size W W') : s.post enc P f apart fresh handsOn false W args v W' :=
  ⟨ds, gs, before, [], pa, pv, hW, hres _ _ _, hargs _, hvars _, hb.frame _, fun h => by cases h⟩

theorem list_ne {a b : ByteArray} (h : a ≠ b) : (a.toList == b.toList) = false := by
  have e : ¬ a.toList = b.toList := fun e => h (by
    rw [ByteArray.toList_eq, ByteArray.toList_eq] at e
    cases a; cases b
    simpa using e)
  simp [e]

set_option maxHeartbeats 1000000 in
set_option maxRecDepth 1000000 in
theorem match_yes (s got : ByteArray) (w : World) (hs : s.size ≤ maxLen) (hg : got = low s) :
    Calls Try.prog 7 #[.string s, .string got] w fun e w' => e = .returned (.bool true) ∧ ∃ n, w' = w.drewN n := by
  unfold maxLen at hs
  have hsz : got.size = s.size := by rw [hg, Plain.low_size]
  have HG : Hid (∀ k (h1 : k < got.size) (h2 : k < s.size), (got[k].toNat : Int) = loI s[k].toNat) := by
    subst hg
    intro k h1 h2
    rw [Plain.low_get s k h2 h1, Plain.loB_toNat]
  have hb1 : (got.size : Int) ≤ s.size := by omega
  have hb2 : (s.size : Int) ≤ got.size := by omega
  have hne : ((got.size : Int) != (s.size : Int)) = false := by simp; omega
  clear hsz hg
  go_enter Try.func7, Try.ntmps7
  go_wp2
  go_loopw [5] (fun i wr => ∃ k n : Nat, k ≤ s.size ∧ i = .int .i64 k ∧ Hid (wr = w.drewN n)) (fun i _ => s.size - (intOf i).toNat)
  case atStart => exact ⟨0, 0, Nat.zero_le _, rfl, rfl⟩
  case round =>
    obtain ⟨k, n, hk, rfl, hw⟩ := hrel
    by_cases hlt : k < s.size
    · have hlt2 : k < got.size := by omega
      have e : ((got[k].toNat : Int) != loI s[k].toNat) = false := by rw [HG.out k hlt2 hlt]; simp
      have c0 : (0 : Int) ≤ (s[k].toNat : Int) := by omega
      have c1 : (s[k].toNat : Int) ≤ 255 := by have := byte_lt s[k]; omega
      go_wp2_with fail
      go_quiet ((go_at_call 12; exact Calls.quiet_of_same (model_any _ _ c0 c1)))
      go_wp2
      go_roundw
      case rel => exact ⟨k + 1, n + nq, by omega, by go_num, by rw [hw.out, World.drewN_drewN]; rfl⟩
      case measure => simp [intOf]; omega
    · go_wp2
      go_ret
      exact ⟨rfl, n, hw.out⟩

set_option maxHeartbeats 1000000 in
set_option maxRecDepth 1000000 in
theorem walk4 (a b : ByteArray) (ha : a.size ≤ maxLen) (hb : b.size ≤ maxLen) (w : World) :
    Calls Try.prog 4 #[.string a, .string b] w fun e w' => e = .returned (.bool true) ∧ Below w.heap.size w w' := by
  have hka : (low a).size ≤ maxLen := by rw [Plain.low_size]; exact ha
  have h0 : (a.size : Int) ≤ 2 ^ 63 - 1 := by unfold maxLen at ha; omega
  go_enter Try.func4, Try.ntmps4
  go_wp2_with fail
  refine (bytes8 a b _ ha hb).mono ?_
  rintro e w1 ⟨⟨r, rfl⟩, rfl⟩
  cases r
  · go_wp2
    go_ret
    exact ⟨rfl, Below.refl _ _⟩
  by_cases h1 : 1048576 < (a.size : Int)
  · go_wp2
    go_ret
    exact ⟨rfl, Below.refl _ _⟩
  have h1' : (a.size : Int) ≤ 1048576 := by omega
  by_cases h2 : 1048576 - (a.size : Int) < (b.size : Int)
  · go_wp2
    go_ret
    exact ⟨rfl, Below.refl _ _⟩
  go_wp2_with fail
  refine (lower_str a _ ha).mono ?_
  rintro e w2 ⟨rfl, b2⟩
  go_wp2_with fail
  refine (lower_str b _ hb).mono ?_
  rintro e w3 ⟨rfl, b3⟩
  by_cases hF : FoldEq a b
  · have HE : Hid (((low a).toList == (low b).toList) = true) := by show _ = true; rw [(Plain.low_eq_iff a b).2 hF]; simp
    have HF : Hid (FoldEq a b) := hF
    clear hF
    go_wp2_with fail
    refine (fold_yes a b _ ha hb HF.out).mono ?_
    rintro e w8 ⟨rfl, rfl⟩
    rw [HE.out]
    go_wp2_with fail
    refine (fold_yes (low a) a _ hka ha (Plain.foldEq_low a)).mono ?_
    rintro e w9 ⟨rfl, rfl⟩
    go_wp2
    go_ret
    exact ⟨rfl, b2.trans (b3.mono b2.size)⟩
  · have HE : Hid (((low a).toList == (low b).toList) = false) := list_ne fun h => hF ((Plain.low_eq_iff a b).1 h)
    have HF : Hid (¬ FoldEq a b) := hF
    clear hF
    go_wp2_with fail
    refine (fold_no a b _ ha hb HF.out).mono ?_
    rintro e w8 ⟨rfl, rfl⟩
    rw [HE.out]
    go_wp2_with fail
    refine (fold_yes (low a) a _ hka ha (Plain.foldEq_low a)).mono ?_
    rintro e w9 ⟨rfl, rfl⟩
    go_wp2
    go_ret
    exact ⟨rfl, b2.trans (b3.mono b2.size)⟩

set_option maxHeartbeats 1000000 in
set_option maxRecDepth 1000000 in
theorem walk3 (a b : ByteArray) (ha : a.size ≤ maxLen) (hb : b.size ≤ maxLen) (w : World) :
    Calls Try.prog 3 #[.string a, .string b] w fun e w' => e = .returned (.bool true) ∧ Below w.heap.size w w' := by
  have h0 : (a.size : Int) ≤ 2 ^ 63 - 1 := by unfold maxLen at ha; omega
  go_enter Try.func3, Try.ntmps3
  go_wp2_with fail
  refine (bytes5 a b _ ha hb).mono ?_
  rintro e w1 ⟨⟨r, rfl⟩, rfl⟩
  cases r
  · go_wp2
    go_ret
    exact ⟨rfl, Below.refl _ _⟩
  by_cases h1 : 1048576 < (a.size : Int)
  · go_wp2
    go_ret
    exact ⟨rfl, Below.refl _ _⟩
  have h1' : (a.size : Int) ≤ 1048576 := by omega
  by_cases h2 : 1048576 - (a.size : Int) < (b.size : Int)
  · go_wp2
    go_ret
    exact ⟨rfl, Below.refl _ _⟩
  have hab : (a ++ b).size ≤ maxLen := by rw [ByteArray.size_append]; unfold maxLen; omega
  have L := fun W => lower_str (a ++ b) W hab
  rw [Plain.low_append] at L
  go_wp2_with fail
  refine (L _).mono ?_
  rintro e w2 ⟨rfl, b2⟩
  go_wp2_with fail
  refine (lower_str a _ ha).mono ?_
  rintro e w3 ⟨rfl, b3⟩
  go_wp2_with fail
  refine (lower_str b _ hb).mono ?_
  rintro e w4 ⟨rfl, b4⟩
  have la : (low a).size ≤ 1048576 := by rw [Plain.low_size]; omega
  have lb : (low b).size ≤ 1048576 := by rw [Plain.low_size]; omega
  go_wp2_with fail
  refine (match_yes (a ++ b) (low a ++ low b) _ hab (Plain.low_append a b).symm).mono ?_
  rintro e w5 ⟨rfl, n5, rfl⟩
  go_wp2
  go_ret
  exact ⟨rfl, below_drewN ((b2.trans (b3.mono b2.size)).trans (b4.mono (Nat.le_trans b2.size b3.size))) _⟩
end Go.Proofs.Qxb6627535a
