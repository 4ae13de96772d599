import Derived.Test.Qxb6627498aRows
import Derived.Test.Qxb6627498aPlain
import Derived.WalkKit
import Derived.BigQuiet
import Derived.Deep.QuietTactic
namespace Go.Proofs.Qxb6627498a
open Go.RowKit
open Plain (upI loI key NoLow FoldEq)
set_option linter.unusedVariables false

theorem ret_int {k : IntKind} {a b : Int} (h : a = b) : Ending.returned (.int k a) = .returned (.int k b) := by rw [h]
theorem ret_bool {a b : Bool} (h : a = b) : Ending.returned (.bool a) = .returned (.bool b) := by rw [h]

set_option maxHeartbeats 400000 in
theorem lower_any (n : Int) (w : World) (h0 : 0 ≤ n) (h1 : n ≤ 255) :
    Calls Try.prog 12 #[.int .u8 n] w fun e w' => e = .returned (.int .u8 (loI n)) ∧ w' = w := by
  by_cases c1 : 65 ≤ n <;> by_cases c2 : n ≤ 90
  all_goals
    go_enter Try.func12, Try.ntmps12
    go_wp2
    go_ret
    refine ⟨ret_int ?_, rfl⟩
    unfold loI
    first | (exfalso; omega) | rw [if_pos (by omega)] | rw [if_neg (by omega)]

theorem lower_byte (c : UInt8) (w : World) :
    Calls Try.prog 12 #[.int .u8 (c.toNat : Int)] w fun e w' => e = .returned (.int .u8 (loI c.toNat)) ∧ w' = w :=
  lower_any _ w (by omega) (by have := c.toNat_lt; omega)

set_option maxHeartbeats 400000 in
theorem hasLow_no (s : ByteArray) (w : World) (hs : s.size ≤ maxLen) (h : NoLow s) :
    Calls Try.prog 8 #[.string s] w fun e w' => e = .returned (.bool false) ∧ w' = w := by
  unfold maxLen at hs
  have H : Hid (NoLow s) := h
  clear h
  go_enter Try.func8, Try.ntmps8
  go_wp2
  go_loop [3] (fun i => ∃ k : Nat, k ≤ s.size ∧ i = .int .i64 k) (fun i => s.size - (intOf i).toNat)
  case atStart => exact ⟨0, Nat.zero_le _, rfl⟩
  case round =>
    obtain ⟨k, hk, rfl⟩ := hrel
    by_cases hlt : k < s.size
    · have hn := H.out k hlt
      by_cases c1 : 97 ≤ (s[k].toNat : Int)
      · have c2 : 122 < (s[k].toNat : Int) := by omega
        clear hn
        go_wp2
        go_round
        case rel => exact ⟨k + 1, by omega, by go_num⟩
        case measure => simp [intOf]; omega
      · clear hn
        go_wp2
        go_round
        case rel => exact ⟨k + 1, by omega, by go_num⟩
        case measure => simp [intOf]; omega
    · go_wp2
      go_ret
      exact ⟨rfl, rfl⟩

set_option maxHeartbeats 400000 in
theorem bytes5 (a b : ByteArray) (w : World) (ha : a.size ≤ maxLen) (hb : b.size ≤ maxLen) :
    Calls Try.prog 5 #[.string a, .string b] w fun e w' => (∃ r, e = .returned (.bool r)) ∧ w' = w := by
  unfold maxLen at ha hb
  by_cases h1 : a.size ≤ 1048576 <;> by_cases h2 : b.size ≤ 1048576 <;> by_cases h3 : a.size + b.size ≤ 1048576
  all_goals try (exfalso; omega)
  all_goals
    go_enter Try.func5, Try.ntmps5
    try (go_wp2; go_ret; exact ⟨⟨_, rfl⟩, rfl⟩)

set_option maxHeartbeats 400000 in
theorem bytes9 (a b : ByteArray) (w : World) (ha : a.size ≤ maxLen) (hb : b.size ≤ maxLen) :
    Calls Try.prog 9 #[.string a, .string b] w fun e w' => (∃ r, e = .returned (.bool r)) ∧ w' = w := by
  unfold maxLen at ha hb
  by_cases h1 : a.size ≤ 1048576 <;> by_cases h2 : b.size ≤ 1048576 <;> by_cases h3 : a.size + b.size ≤ 1048576
  all_goals try (exfalso; omega)
  all_goals
    go_enter Try.func9, Try.ntmps9
    try (go_wp2; go_ret; exact ⟨⟨_, rfl⟩, rfl⟩)

set_option maxHeartbeats 1000000 in
set_option maxRecDepth 1000000 in
theorem fold_yes (x y : ByteArray) (w : World) (hx : x.size ≤ maxLen) (hy : y.size ≤ maxLen) (h : FoldEq x y) :
    Calls Try.prog 7 #[.string x, .string y] w fun e w' => e = .returned (.bool true) ∧ ∃ n, w' = w.drewN n := by
  unfold maxLen at hx hy
  obtain ⟨hs, h⟩ := h
  have H := fun (j : Nat) (h1 : j < x.size) (h2 : j < y.size) => (show Hid (loI x[j].toNat = loI y[j].toNat) from h j h1 h2)
  have hb1 : (x.size : Int) ≤ y.size := by omega
  have hb2 : (y.size : Int) ≤ x.size := by omega
  have hne : ((x.size : Int) != (y.size : Int)) = false := by simp; omega
  clear h hs
  go_enter Try.func7, Try.ntmps7
  go_wp2
  go_loopw [5] (fun i wr => ∃ k n : Nat, k ≤ x.size ∧ i = .int .i64 k ∧ Hid (wr = w.drewN n)) (fun i _ => x.size - (intOf i).toNat)
  case atStart => exact ⟨0, 0, Nat.zero_le _, rfl, rfl⟩
  case round =>
    obtain ⟨k, n, hk, rfl, hw⟩ := hrel
    by_cases hlt : k < x.size
    · have hlt2 : k < y.size := by omega
      have e : (loI x[k].toNat != loI y[k].toNat) = false := by simp [(H k hlt hlt2).out]
      go_wp2_with fail
      go_quiet ((go_at_call 12; exact Calls.quiet_of_same (lower_byte _ _)))
      go_wp2
      go_roundw
      case rel => exact ⟨k + 1, n + nq, by omega, by go_num, by rw [hw.out, World.drewN_drewN]; rfl⟩
      case measure => simp [intOf]; omega
    · go_wp2
      go_ret
      exact ⟨rfl, n, hw.out⟩

set_option maxHeartbeats 1000000 in
set_option maxRecDepth 1000000 in
theorem fold_no (x y : ByteArray) (w : World) (hx : x.size ≤ maxLen) (hy : y.size ≤ maxLen) (h : ¬ FoldEq x y) :
    Calls Try.prog 7 #[.string x, .string y] w fun e w' => e = .returned (.bool false) ∧ ∃ n, w' = w.drewN n := by
  unfold maxLen at hx hy
  by_cases hs : x.size = y.size
  · have H : Hid (¬ FoldEq x y) := h
    have hb1 : (x.size : Int) ≤ y.size := by omega
    have hb2 : (y.size : Int) ≤ x.size := by omega
    have hne : ((x.size : Int) != (y.size : Int)) = false := by simp; omega
    clear h hs
    go_enter Try.func7, Try.ntmps7
    go_wp2
    go_loopw [5] (fun i wr => ∃ k n : Nat, k ≤ x.size ∧ i = .int .i64 k ∧ Hid (wr = w.drewN n) ∧ Hid (∀ j (h1 : j < x.size) (h2 : j < y.size), j < k → loI x[j].toNat = loI y[j].toNat)) (fun i _ => x.size - (intOf i).toNat)
    case atStart => exact ⟨0, 0, Nat.zero_le _, rfl, rfl, fun j _ _ h => by omega⟩
    case round =>
      obtain ⟨k, n, hk, rfl, hw, hj⟩ := hrel
      by_cases hlt : k < x.size
      · have hlt2 : k < y.size := by omega
        cases e : (loI x[k].toNat != loI y[k].toNat)
        · go_wp2_with fail
          go_quiet ((go_at_call 12; exact Calls.quiet_of_same (lower_byte _ _)))
          go_wp2
          go_roundw
          case rel => exact ⟨k + 1, n + nq, by omega, by go_num, by rw [hw.out, World.drewN_drewN]; rfl, fun j h1 h2 h3 => by
            by_cases e' : j = k
            · subst e'; simpa using e
            · exact hj.out j h1 h2 (by omega)⟩
          case measure => simp [intOf]; omega
        · go_wp2_with fail
          go_quiet ((go_at_call 12; exact Calls.quiet_of_same (lower_byte _ _)))
          go_wp2
          go_ret
          exact ⟨rfl, n + nq, by rw [hw.out, World.drewN_drewN]⟩
      · exact absurd ⟨by omega, fun j h1 h2 => hj.out j h1 h2 (by omega)⟩ H.out
  · have hne : ((x.size : Int) != (y.size : Int)) = true := by simp; omega
    clear h hs
    go_enter Try.func7, Try.ntmps7
    go_wp2
    go_ret
    exact ⟨rfl, 0, rfl⟩
end Go.Proofs.Qxb6627498a
