import Derived.Test.Qxb6627535aRows
import Derived.Test.Qxb6627535aPlain
import Derived.WalkKit
import Derived.BigQuiet
import Derived.Deep.QuietTactic
namespace Go.Proofs.Qxb6627535a
open Go.RowKit
open Plain (loI low NoUp FoldEq Alike)
set_option linter.unusedVariables false

theorem ret_int {k : IntKind} {a b : Int} (h : a = b) : Ending.returned (.int k a) = .returned (.int k b) := by rw [h]
theorem ret_bool {a b : Bool} (h : a = b) : Ending.returned (.bool a) = .returned (.bool b) := by rw [h]

set_option maxHeartbeats 400000 in
theorem isUp_yes (n : Int) (w : World) (h0 : 65 ≤ n) (h1 : n ≤ 90) :
    Calls Try.prog 10 #[.int .u8 n] w fun e w' => e = .returned (.bool true) ∧ w' = w := by
  go_enter Try.func10, Try.ntmps10
  go_wp2
  go_ret
  exact ⟨ret_bool (by simp <;> omega), rfl⟩
set_option maxHeartbeats 400000 in
theorem isUp_no (n : Int) (w : World) (h : ¬ (65 ≤ n ∧ n ≤ 90)) :
    Calls Try.prog 10 #[.int .u8 n] w fun e w' => e = .returned (.bool false) ∧ w' = w := by
  by_cases h1 : 65 ≤ n
  · have h2 : 90 < n := by omega
    clear h
    go_enter Try.func10, Try.ntmps10
    go_wp2
    go_ret
    exact ⟨ret_bool (by simp <;> omega), rfl⟩
  · clear h
    go_enter Try.func10, Try.ntmps10
    go_wp2
    go_ret
    exact ⟨ret_bool (by simp <;> omega), rfl⟩
set_option maxHeartbeats 400000 in
theorem lower_any (n : Int) (w : World) (h0 : 0 ≤ n) (h1 : n ≤ 255) :
    Calls Try.prog 11 #[.int .u8 n] w fun e w' => e = .returned (.int .u8 (loI n)) ∧ w' = w := by
  by_cases h : 65 ≤ n ∧ n ≤ 90
  · obtain ⟨h2, h3⟩ := h
    go_enter Try.func11, Try.ntmps11
    go_wp2_with (go_at_call 10; refine (isUp_yes _ _ h2 h3).mono ?_; rintro e w' ⟨rfl, rfl⟩)
    go_ret
    refine ⟨ret_int ?_, rfl⟩
    unfold loI
    rw [if_pos (by omega)]
    omega
  · have C := fun W => isUp_no n W h
    have H : Hid (¬ (65 ≤ n ∧ n ≤ 90)) := h
    clear h
    go_enter Try.func11, Try.ntmps11
    go_wp2_with (go_at_call 10; refine (C _).mono ?_; rintro e w' ⟨rfl, rfl⟩)
    go_ret
    refine ⟨ret_int ?_, rfl⟩
    unfold loI
    rw [if_neg H.out]

set_option maxHeartbeats 400000 in
theorem bytes5 (a b : ByteArray) (w : World) (ha : a.size ≤ maxLen) (hb : b.size ≤ maxLen) :
    Calls Try.prog 5 #[.string a, .string b] w fun e w' => (∃ r, e = .returned (.bool r)) ∧ w' = w := by
  unfold maxLen at ha hb
  by_cases h1 : a.size ≤ 1048576 <;> by_cases h2 : b.size ≤ 1048576 <;> by_cases h3 : a.size + b.size ≤ 1048576
  all_goals try (exfalso; omega)
  all_goals
    go_enter Try.func5, Try.ntmps5
    try (go_wp2; go_ret; exact ⟨⟨_, rfl⟩, rfl⟩)
set_option maxHeartbeats 400000 in
theorem bytes8 (a b : ByteArray) (w : World) (ha : a.size ≤ maxLen) (hb : b.size ≤ maxLen) :
    Calls Try.prog 8 #[.string a, .string b] w fun e w' => (∃ r, e = .returned (.bool r)) ∧ w' = w := by
  unfold maxLen at ha hb
  by_cases h1 : a.size ≤ 1048576 <;> by_cases h2 : b.size ≤ 1048576 <;> by_cases h3 : a.size + b.size ≤ 1048576
  all_goals try (exfalso; omega)
  all_goals
    go_enter Try.func8, Try.ntmps8
    try (go_wp2; go_ret; exact ⟨⟨_, rfl⟩, rfl⟩)

theorem byte_lt (c : UInt8) : c.toNat < 256 := c.toNat_lt

set_option maxHeartbeats 1000000 in
theorem fold_yes (x y : ByteArray) (w : World) (hx : x.size ≤ maxLen) (hy : y.size ≤ maxLen) (h : FoldEq x y) :
    Calls Try.prog 9 #[.string x, .string y] w fun e w' => e = .returned (.bool true) ∧ w' = w := by
  unfold maxLen at hx hy
  obtain ⟨hs, h⟩ := h
  have H := show Hid _ from h
  have hb1 : (x.size : Int) ≤ y.size := by omega
  have hb2 : (y.size : Int) ≤ x.size := by omega
  have hne : ((x.size : Int) != (y.size : Int)) = false := by simp; omega
  clear h hs
  go_enter Try.func9, Try.ntmps9
  go_wp2
  go_loop [5] (fun i => ∃ k : Nat, k ≤ x.size ∧ i = .int .i64 k) (fun i => x.size - (intOf i).toNat)
  case atStart => exact ⟨0, Nat.zero_le _, rfl⟩
  case round =>
    obtain ⟨k, hk, rfl⟩ := hrel
    by_cases hlt : k < x.size
    · have hlt2 : k < y.size := by omega
      have hA := (Plain.alike_iff _ _ (byte_lt x[k]) (byte_lt y[k])).2 (H.out k hlt hlt2)
      by_cases e : x[k].toNat = y[k].toNat
      · have q : ((x[k].toNat : Int) == (y[k].toNat : Int)) = true := by rw [beq_iff_eq]; omega
        clear hA e
        go_wp2
        go_round
        case rel => exact ⟨k + 1, by omega, by go_num⟩
        case measure => simp [intOf]; omega
      · have q : ((x[k].toNat : Int) == (y[k].toNat : Int)) = false := by rw [beq_eq_false_iff_ne]; omega
        rcases hA with hA | ⟨a1, a2, a3⟩
        · exact absurd hA e
        · have hxr := u8_xor_nat _ _ (byte_lt x[k]) (byte_lt y[k])
          have hor := u8_or_nat _ 32 (byte_lt x[k]) (by omega)
          rw [a1] at hxr
          have q2 : (bits .xor .u8 (x[k].toNat : Int) (y[k].toNat : Int) != 32) = false := by rw [hxr]; rfl
          have hor' : bits .or .u8 (x[k].toNat : Int) 32 = ((x[k].toNat ||| 32 : Nat) : Int) := hor
          have q3 : 97 ≤ bits .or .u8 (x[k].toNat : Int) 32 := by rw [hor']; omega
          have q4 : bits .or .u8 (x[k].toNat : Int) 32 ≤ 122 := by rw [hor']; omega
          clear hxr hor hor' a1 a2 a3 e
          go_wp2
          go_round
          case rel => exact ⟨k + 1, by omega, by go_num⟩
          case measure => simp [intOf]; omega
    · go_wp2
      go_ret
      exact ⟨rfl, rfl⟩
end Go.Proofs.Qxb6627535a
