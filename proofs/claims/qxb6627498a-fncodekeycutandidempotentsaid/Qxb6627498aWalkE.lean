import Derived.Test.Qxb6627498aWalkD
namespace Go.Proofs.Qxb6627498a
open Go.RowKit Go.Lib
open Plain (upI loI upB key NoLow FoldEq lowN)
set_option linter.unusedVariables false

set_option maxHeartbeats 1000000 in
set_option maxRecDepth 1000000 in
theorem walk4 (a b : ByteArray) (ha : a.size ≤ maxLen) (hb : b.size ≤ maxLen) (w : World) :
    Calls Try.prog 4 #[.string a, .string b] w fun e w' => e = .returned (.bool true) ∧ Below w.heap.size w w' := by
  have has : (a ++ b).size = a.size + b.size := by simp
  go_enter Try.func4, Try.ntmps4
  go_wp2_with fail
  refine (bytes9 a b _ ha hb).mono ?_
  rintro e w1 ⟨⟨r, rfl⟩, rfl⟩
  cases r
  · go_wp2
    go_ret
    exact ⟨rfl, Below.refl _ _⟩
  by_cases h1 : 65536 < (a.size : Int)
  · go_wp2
    go_ret
    exact ⟨rfl, Below.refl _ _⟩
  by_cases h2 : 65536 < (b.size : Int)
  · go_wp2
    go_ret
    exact ⟨rfl, Below.refl _ _⟩
  have hab : (a ++ b).size ≤ maxLen := by rw [has]; unfold maxLen; omega
  clear has
  go_wp2_with fail
  refine (codeKey_any (a ++ b) _ hab).mono ?_
  rintro e w2 ⟨rfl, b2⟩
  have HK : Hid (key (a ++ b) = key a ++ key b) := Plain.key_append a b
  have HKK : Hid (key (key (a ++ b)) = key (a ++ b)) := Plain.key_key _
  have hks : (key (a ++ b)).size ≤ maxLen := by rw [Plain.key_size]; exact hab
  have HNL : Hid (NoLow (key (a ++ b))) := Plain.key_noLow (a ++ b)
  have eS : (((key (a ++ b)).size : Int) != (a.size : Int) + (b.size : Int)) = false := by rw [Plain.key_size]; simp
  have hka : (key a).size ≤ 65536 := by rw [Plain.key_size]; omega
  have hkb : (key b).size ≤ 65536 := by rw [Plain.key_size]; omega
  go_wp2_with fail
  refine (hasLow_no (key (a ++ b)) _ hks HNL.out).mono ?_
  rintro e w3 ⟨rfl, rfl⟩
  go_wp2_with fail
  refine (codeKey_any a _ ha).mono ?_
  rintro e w4 ⟨rfl, b4⟩
  go_wp2_with fail
  refine (codeKey_any b _ hb).mono ?_
  rintro e w5 ⟨rfl, b5⟩
  go_wp2_with fail
  · exfalso
    rename_i hx
    rw [HK.out] at hx
    simp at hx
  refine (codeKey_any (key (a ++ b)) _ hks).mono ?_
  rintro e w6 ⟨rfl, b6⟩
  have HL : Hid (((key (key (a ++ b))).toList == (key (a ++ b)).toList) = true) := by show _ = true; rw [HKK.out]; simp
  go_wp2
  go_ret
  have b45 := b4.trans (b5.mono b4.size)
  have b25 := b2.trans (b45.mono b2.size)
  exact ⟨ret_bool HL.out, b25.trans (b6.mono b25.size)⟩
end Go.Proofs.Qxb6627498a
