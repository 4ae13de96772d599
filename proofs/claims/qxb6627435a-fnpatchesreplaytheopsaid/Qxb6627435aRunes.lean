import Derived.Test.Qxb6627435aRows
import Derived.Lib.DecodeN
import Derived.WalkKit
import Derived.BigQuiet
import Derived.Deep.QuietTactic
namespace Go.Proofs.Qxb6627435a
open Go.RowKit
set_option linter.unusedVariables false

theorem ret_int {k : IntKind} {a b : Int} (h : a = b) : Ending.returned (.int k a) = .returned (.int k b) := by rw [h]
theorem ret_bool {a b : Bool} (h : a = b) : Ending.returned (.bool a) = .returned (.bool b) := by rw [h]

theorem get_data (s : ByteArray) (j : Nat) (h : j < s.size) : s.get! j = s[j] := by
  have h' : j < s.data.size := h
  show s.data[j]! = s.data[j]
  exact getElem!_pos s.data j h'

def contB (n : Int) : Bool := decide (128 ≤ n) && decide (n ≤ 191)

set_option maxHeartbeats 400000 in
theorem cont_any (n : Int) (w : World) (h0 : 0 ≤ n) (h1 : n ≤ 255) :
    Calls Try.prog 19 #[.int .u8 n] w fun e w' => e = .returned (.bool (contB n)) ∧ w' = w := by
  by_cases c1 : 128 ≤ n <;> by_cases c2 : n ≤ 191
  all_goals
    go_enter Try.func19, Try.ntmps19
    go_wp2
    go_ret
    refine ⟨ret_bool ?_, rfl⟩
    simp [contB]
    try omega

theorem cont_byte (c : UInt8) (w : World) :
    Calls Try.prog 19 #[.int .u8 (c.toNat : Int)] w fun e w' => e = .returned (.bool (contB c.toNat)) ∧ w' = w :=
  cont_any _ w (by omega) (by have := c.toNat_lt; omega)

/-- The byte at place j (0 beyond the end). -/
def bAt (s : ByteArray) (j : Nat) : Nat := (s.get! j).toNat
theorem bAt_lt (s : ByteArray) (j : Nat) : bAt s j < 256 := (s.get! j).toNat_lt
theorem bAt_eq (s : ByteArray) (j : Nat) (h : j < s.size) : bAt s j = s[j].toNat := by rw [bAt, get_data s j h]
theorem contB_true {n : Int} (h : contB n = true) : 128 ≤ n ∧ n ≤ 191 := by simpa [contB] using h
theorem contB_false {n : Int} (h : contB n = false) : ¬ (128 ≤ n ∧ n ≤ 191) := by
  intro h'; simp [contB] at h; omega

theorem dec_one (s : ByteArray) (k : Nat) (hk : k < s.size) (h : bAt s k < 194 ∨ 244 < bAt s k) : (Utf8.decode s k).2 = 1 := by
  rw [Lib.decode_at]
  have b0 := bAt_lt s k
  unfold bAt at *
  unfold Lib.decodeN
  repeat' split
  all_goals first | rfl | (exfalso; omega)

def dec (s : ByteArray) (k sz lo hi : Nat) : Nat := (Lib.slowN (s.size - k) (bAt s k) (bAt s (k + 1)) (bAt s (k + 2)) (bAt s (k + 3)) sz lo hi).2
theorem dec_C2 (s : ByteArray) (k : Nat) (hk : k < s.size) (h : 194 ≤ bAt s k ∧ bAt s k < 224) : (Utf8.decode s k).2 = dec s k 2 128 191 := by
  rw [Lib.decode_at, dec, Lib.slow_C2 _ _ _ _ _ (by omega) (bAt_lt _ _) (bAt_lt _ _) (bAt_lt _ _) h]; rfl
theorem dec_E0 (s : ByteArray) (k : Nat) (hk : k < s.size) (h : bAt s k = 224) : (Utf8.decode s k).2 = dec s k 3 160 191 := by
  rw [Lib.decode_at, dec, Lib.slow_E0 _ _ _ _ _ (by omega) (bAt_lt _ _) (bAt_lt _ _) (bAt_lt _ _) h]; rfl
theorem dec_E1 (s : ByteArray) (k : Nat) (hk : k < s.size) (h : (225 ≤ bAt s k ∧ bAt s k < 237) ∨ (238 ≤ bAt s k ∧ bAt s k < 240)) : (Utf8.decode s k).2 = dec s k 3 128 191 := by
  rw [Lib.decode_at, dec, Lib.slow_E1 _ _ _ _ _ (by omega) (bAt_lt _ _) (bAt_lt _ _) (bAt_lt _ _) h]; rfl
theorem dec_ED (s : ByteArray) (k : Nat) (hk : k < s.size) (h : bAt s k = 237) : (Utf8.decode s k).2 = dec s k 3 128 159 := by
  rw [Lib.decode_at, dec, Lib.slow_ED _ _ _ _ _ (by omega) (bAt_lt _ _) (bAt_lt _ _) (bAt_lt _ _) h]; rfl
theorem dec_F0 (s : ByteArray) (k : Nat) (hk : k < s.size) (h : bAt s k = 240) : (Utf8.decode s k).2 = dec s k 4 144 191 := by
  rw [Lib.decode_at, dec, Lib.slow_F0 _ _ _ _ _ (by omega) (bAt_lt _ _) (bAt_lt _ _) (bAt_lt _ _) h]; rfl
theorem dec_F1 (s : ByteArray) (k : Nat) (hk : k < s.size) (h : 241 ≤ bAt s k ∧ bAt s k < 244) : (Utf8.decode s k).2 = dec s k 4 128 191 := by
  rw [Lib.decode_at, dec, Lib.slow_F1 _ _ _ _ _ (by omega) (bAt_lt _ _) (bAt_lt _ _) (bAt_lt _ _) h]; rfl
theorem dec_F4 (s : ByteArray) (k : Nat) (hk : k < s.size) (h : bAt s k = 244) : (Utf8.decode s k).2 = dec s k 4 128 143 := by
  rw [Lib.decode_at, dec, Lib.slow_F4 _ _ _ _ _ (by omega) (bAt_lt _ _) (bAt_lt _ _) (bAt_lt _ _) h]; rfl

theorem dec_short {s : ByteArray} {k sz lo hi : Nat} (hsz : 1 ≤ sz) (h : (s.size : Int) ≤ (k : Int) + sz - 1) : dec s k sz lo hi = 1 := by
  unfold dec Lib.slowN
  rw [if_pos (by omega)]
theorem dec_bad1 {s : ByteArray} {k sz lo hi : Nat} (h1 : k + 1 < s.size) (hb : ((s[k + 1].toNat : Nat) : Int) < lo ∨ (hi : Int) < (s[k + 1].toNat : Nat)) : dec s k sz lo hi = 1 := by
  unfold dec Lib.slowN
  rw [bAt_eq s (k + 1) h1]
  split
  · rfl
  · rw [if_pos (by omega)]
theorem dec_bad2 {s : ByteArray} {k sz lo hi : Nat} (hsz : 3 ≤ sz) (h1 : k + 2 < s.size) (hb : contB (s[k + 2].toNat : Nat) = false) : dec s k sz lo hi = 1 := by
  have := contB_false hb
  unfold dec Lib.slowN
  rw [bAt_eq s (k + 2) h1]
  split
  · rfl
  split
  · rfl
  rw [if_neg (by omega), if_pos (by omega)]
theorem dec_bad3 {s : ByteArray} {k sz lo hi : Nat} (hsz : 4 ≤ sz) (h1 : k + 3 < s.size) (hb : contB (s[k + 3].toNat : Nat) = false) : dec s k sz lo hi = 1 := by
  have := contB_false hb
  unfold dec Lib.slowN
  rw [bAt_eq s (k + 3) h1]
  split
  · rfl
  split
  · rfl
  rw [if_neg (by omega)]
  split
  · rfl
  rw [if_neg (by omega), if_pos (by omega)]
theorem dec_two {s : ByteArray} {k lo hi : Nat} (h1 : k + 1 < s.size) (hl : (lo : Int) ≤ ((s[k + 1].toNat : Nat) : Int)) (hh : ((s[k + 1].toNat : Nat) : Int) ≤ hi) : dec s k 2 lo hi = 2 := by
  unfold dec Lib.slowN
  rw [bAt_eq s (k + 1) h1, if_neg (by omega), if_neg (by omega), if_pos (by omega)]
theorem dec_three {s : ByteArray} {k lo hi : Nat} (h2 : k + 2 < s.size) (h1 : k + 1 < s.size) (hl : (lo : Int) ≤ ((s[k + 1].toNat : Nat) : Int)) (hh : ((s[k + 1].toNat : Nat) : Int) ≤ hi) (hb : contB (s[k + 2].toNat : Nat) = true) : dec s k 3 lo hi = 3 := by
  have := contB_true hb
  unfold dec Lib.slowN
  rw [bAt_eq s (k + 1) h1, bAt_eq s (k + 2) h2, if_neg (by omega), if_neg (by omega), if_neg (by omega), if_neg (by omega), if_pos (by omega)]
theorem dec_four {s : ByteArray} {k lo hi : Nat} (h3 : k + 3 < s.size) (h2 : k + 2 < s.size) (h1 : k + 1 < s.size) (hl : (lo : Int) ≤ ((s[k + 1].toNat : Nat) : Int)) (hh : ((s[k + 1].toNat : Nat) : Int) ≤ hi) (hb : contB (s[k + 2].toNat : Nat) = true) (hc : contB (s[k + 3].toNat : Nat) = true) : dec s k 4 lo hi = 4 := by
  have := contB_true hb
  have := contB_true hc
  unfold dec Lib.slowN
  rw [bAt_eq s (k + 1) h1, bAt_eq s (k + 2) h2, bAt_eq s (k + 3) h3, if_neg (by omega), if_neg (by omega), if_neg (by omega), if_neg (by omega), if_neg (by omega), if_neg (by omega)]
end Go.Proofs.Qxb6627435a
