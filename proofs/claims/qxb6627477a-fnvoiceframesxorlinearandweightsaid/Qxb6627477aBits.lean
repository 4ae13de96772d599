import Derived.Test.Qxb6627477aRows
import Derived.WalkKit
import Derived.BigQuiet
import Derived.BigRegion
import Derived.Deep.QuietTactic
namespace Go.Proofs.Qxb6627477a
open Go.RowKit
set_option linter.unusedVariables false

theorem ret_int {k : IntKind} {a b : Int} (h : a = b) : Ending.returned (.int k a) = .returned (.int k b) := by rw [h]

/-- Bit 7 - k % 8 of V. -/
def getB (V k : Nat) : Nat := V / 2 ^ (7 - k % 8) % 2
/-- V with bit 7 - k % 8 set to B. -/
def setB (V k B : Nat) : Nat := (V &&& (255 - 128 / 2 ^ (k % 8))) ||| (B * 2 ^ (7 - k % 8) % 256)

theorem and_one (x : Nat) (hx : x < 256) : bits .and .u8 (x : Int) 1 = ((x % 2 : Nat) : Int) := by
  have := u8_and_nat x 1 hx (by omega)
  rw [show ((1 : Nat) : Int) = 1 from rfl] at this
  rw [this, Nat.and_one_is_mod]
theorem div_lt (V a : Nat) (h : V < 256) : V / a < 256 := Nat.lt_of_le_of_lt (Nat.div_le_self _ _) h
theorem get_val (V k : Nat) (hV : V < 256) : bits .and .u8 ((V : Int) / 2 ^ (7 - k % 8)) 1 = (getB V k : Nat) := by
  have := and_one (V / 2 ^ (7 - k % 8)) (div_lt _ _ hV)
  have e1 : ((V / 2 ^ (7 - k % 8) : Nat) : Int) = (V : Int) / 2 ^ (7 - k % 8) := by simp
  rw [e1] at this
  exact this
theorem set_val (V k B : Nat) (hV : V < 256) : bits .or .u8 (bits .andNot .u8 (V : Int) (128 / 2 ^ (k % 8))) ((B : Int) * 2 ^ (7 - k % 8) % 256) = (setB V k B : Nat) := by
  have h1 := u8_andNot_nat V (128 / 2 ^ (k % 8)) hV (div_lt _ _ (by omega))
  have e1 : ((128 / 2 ^ (k % 8) : Nat) : Int) = 128 / 2 ^ (k % 8) := by simp
  rw [e1] at h1
  have hle : V &&& (255 - 128 / 2 ^ (k % 8)) < 256 := Nat.lt_of_le_of_lt Nat.and_le_left hV
  have h2 := u8_or_nat (V &&& (255 - 128 / 2 ^ (k % 8))) (B * 2 ^ (7 - k % 8) % 256) hle (Nat.mod_lt _ (by omega))
  have e2 : ((B * 2 ^ (7 - k % 8) % 256 : Nat) : Int) = (B : Int) * 2 ^ (7 - k % 8) % 256 := by simp
  rw [e2] at h2
  rw [h1, h2, setB]

set_option maxHeartbeats 400000 in
theorem get_any (b off len cap k V : Nat) (w : World) (hk : k < 1000) (hl : k / 8 < len) (hV : V < 256) (hc : w.cell? ⟨b, off + k / 8, none⟩ = some (.int .u8 (V : Int))) :
    Calls Try.prog 9 #[.slice (some ⟨b, off, none⟩) len cap, .int .i64 k] w fun e w' => e = .returned (.int .u8 (getB V k : Nat)) ∧ w' = w := by
  have h1 : (0 : Int) ≤ (k : Int) / 8 := by omega
  have h2 : (k : Int) / 8 < len := by omega
  have h3 : ((k : Int) / 8).toNat = k / 8 := by omega
  go_enter Try.func9, Try.ntmps9
  go_wp2
  go_ret
  exact ⟨ret_int (get_val V k hV), rfl⟩

set_option maxHeartbeats 400000 in
theorem pos_lo (k : Nat) (w : World) (hk : k < 108) : Calls Try.prog 10 #[.int .i64 k] w fun e w' => e = .returned (.int .i64 k) ∧ w' = w := by
  go_enter Try.func10, Try.ntmps10
  go_wp2
  go_ret
  exact ⟨rfl, rfl⟩
set_option maxHeartbeats 400000 in
theorem pos_hi (k : Nat) (w : World) (hk : 108 ≤ k) (hk2 : k < 216) : Calls Try.prog 10 #[.int .i64 k] w fun e w' => e = .returned (.int .i64 ((k + 48 : Nat) : Int)) ∧ w' = w := by
  go_enter Try.func10, Try.ntmps10
  go_wp2
  go_ret
  exact ⟨rfl, rfl⟩
/-- Where bit k of the frames lies in the burst. -/
def vpos (k : Nat) : Nat := if k < 108 then k else k + 48
theorem pos_any (k : Nat) (w : World) (hk : k < 216) : Calls Try.prog 10 #[.int .i64 k] w fun e w' => e = .returned (.int .i64 (vpos k : Nat)) ∧ w' = w := by
  unfold vpos
  by_cases h : k < 108
  · rw [if_pos h]; exact pos_lo k w h
  · rw [if_neg h]; exact pos_hi k w (by omega) hk

set_option maxHeartbeats 400000 in
theorem set_any (b off len cap k V B : Nat) (w : World) (hk : k < 1000) (hl : k / 8 < len) (hV : V < 256) (hB : B < 2) (hc : w.cell? ⟨b, off + k / 8, none⟩ = some (.int .u8 (V : Int))) (hf : w.frozen? ⟨b, off + k / 8, none⟩ = false) :
    Calls Try.prog 8 #[.slice (some ⟨b, off, none⟩) len cap, .int .i64 k, .int .u8 (B : Int)] w fun e w' => e = .returned (.tuple #[]) ∧ w' = (w.setCell ⟨b, off + k / 8, none⟩ (.int .u8 (setB V k B : Nat))).drew := by
  have h1 : (0 : Int) ≤ (k : Int) / 8 := by omega
  have h2 : (k : Int) / 8 < len := by omega
  have h3 : ((k : Int) / 8).toNat = k / 8 := by omega
  have HS := show Hid _ from set_val V k B hV
  go_enter Try.func8, Try.ntmps8
  go_wp2_with fail
  go_region
  go_wp2
  go_end0
  exact ⟨rfl, by rw [HS.out]⟩

theorem set_at (b off len cap k V B : Nat) (kk : Int) (w : World) (hkk : kk = (k : Int)) (hk : k < 1000) (hl : k / 8 < len) (hV : V < 256) (hB : B < 2) (hc : w.cell? ⟨b, off + k / 8, none⟩ = some (.int .u8 (V : Int))) (hf : w.frozen? ⟨b, off + k / 8, none⟩ = false) :
    Calls Try.prog 8 #[.slice (some ⟨b, off, none⟩) len cap, .int .i64 kk, .int .u8 (B : Int)] w fun e w' => e = .returned (.tuple #[]) ∧ w' = (w.setCell ⟨b, off + k / 8, none⟩ (.int .u8 (setB V k B : Nat))).drew := by
  subst hkk
  exact set_any b off len cap k V B w hk hl hV hB hc hf

/-! ### The plain facts of bits -/
def part (V t : Nat) : Nat := V / 2 ^ (8 - t) * 2 ^ (8 - t)
theorem part_step_all : ∀ V, V < 256 → ∀ t, t < 8 → setB (part V t) t (getB V t) = part V (t + 1) := by decide +kernel
theorem part_zero (V : Nat) (h : V < 256) : part V 0 = 0 := by simp [part]; omega
theorem part_eight (V : Nat) : part V 8 = V := by simp [part]
theorem part_lt (V t : Nat) (h : V < 256) : part V t < 256 := Nat.lt_of_le_of_lt (Nat.div_mul_le_self _ _) h
theorem getB_lt (V k : Nat) : getB V k < 2 := Nat.mod_lt _ (by omega)
theorem getB_mod (V k : Nat) : getB V k = getB V (k % 8) := by simp [getB]
theorem setB_mod (V k B : Nat) : setB V k B = setB V (k % 8) B := by simp [setB]

/-- Byte m of the frames of a burst. -/
def vm (b : Nat → Nat) (m : Nat) : Nat := if m < 13 then b m else if m = 13 then (b 13 &&& 240) ||| (b 19 &&& 15) else b (m + 6)
theorem mid_lo_all : ∀ x, x < 256 → ∀ t, t < 4 → getB x t = getB (x &&& 240) t ∧ (x &&& 240) / 2 ^ (7 - t) % 2 = x / 2 ^ (7 - t) % 2 := by decide +kernel

theorem testB (V t : Nat) (ht : t < 8) : getB V t = (V.testBit (7 - t)).toNat := by
  have e : t % 8 = t := Nat.mod_eq_of_lt ht
  rw [getB, e, Nat.testBit_eq_decide_div_mod_eq]
  rcases Nat.mod_two_eq_zero_or_one (V / 2 ^ (7 - t)) with h | h <;> simp [h]
theorem mid_hi (x y t : Nat) (ht : t < 4) : getB ((x &&& 240) ||| (y &&& 15)) t = getB x t := by
  rw [testB _ _ (by omega), testB _ _ (by omega)]
  congr 1
  rw [Nat.testBit_or, Nat.testBit_and, Nat.testBit_and]
  obtain rfl | rfl | rfl | rfl : t = 0 ∨ t = 1 ∨ t = 2 ∨ t = 3 := by omega
  all_goals simp [show Nat.testBit 240 7 = true from rfl, show Nat.testBit 240 6 = true from rfl, show Nat.testBit 240 5 = true from rfl, show Nat.testBit 240 4 = true from rfl, show Nat.testBit 15 7 = false from rfl, show Nat.testBit 15 6 = false from rfl, show Nat.testBit 15 5 = false from rfl, show Nat.testBit 15 4 = false from rfl]
theorem mid_low (x y t : Nat) (ht : 4 ≤ t) (ht2 : t < 8) : getB ((x &&& 240) ||| (y &&& 15)) t = getB y t := by
  rw [testB _ _ (by omega), testB _ _ (by omega)]
  congr 1
  rw [Nat.testBit_or, Nat.testBit_and, Nat.testBit_and]
  obtain rfl | rfl | rfl | rfl : t = 4 ∨ t = 5 ∨ t = 6 ∨ t = 7 := by omega
  all_goals simp [show Nat.testBit 240 3 = false from rfl, show Nat.testBit 240 2 = false from rfl, show Nat.testBit 240 1 = false from rfl, show Nat.testBit 240 0 = false from rfl, show Nat.testBit 15 3 = true from rfl, show Nat.testBit 15 2 = true from rfl, show Nat.testBit 15 1 = true from rfl, show Nat.testBit 15 0 = true from rfl]

/-- The bit that is read for bit k of the frames is bit k of their bytes. -/
theorem bit_of (b : Nat → Nat) (k : Nat) (hk : k < 216) : getB (b (vpos k / 8)) (vpos k) = getB (vm b (k / 8)) k := by
  unfold vpos
  by_cases h : k < 108
  · rw [if_pos h]
    by_cases h1 : k / 8 < 13
    · rw [vm, if_pos h1]
    · have e : k / 8 = 13 := by omega
      rw [vm, if_neg h1, if_pos e, e, getB_mod, getB_mod _ k, mid_hi _ _ _ (by omega)]
  · rw [if_neg h]
    have e6 : (k + 48) / 8 = k / 8 + 6 := by omega
    have em : (k + 48) % 8 = k % 8 := by omega
    rw [e6, getB_mod, em, getB_mod _ k]
    by_cases h1 : k / 8 = 13
    · rw [vm, if_neg (by omega), if_pos h1, h1, mid_low _ _ _ (by omega) (by omega)]
    · rw [vm, if_neg (by omega), if_neg h1]

theorem vm_lt {b : Nat → Nat} (h : ∀ j, j < 33 → b j < 256) (m : Nat) (hm : m < 27) : vm b m < 256 := by
  unfold vm
  split
  · exact h m (by omega)
  · split
    · exact Nat.or_lt_two_pow (n := 8) (Nat.lt_of_le_of_lt Nat.and_le_left (h 13 (by omega))) (Nat.lt_of_le_of_lt Nat.and_le_left (h 19 (by omega)))
    · exact h (m + 6) (by omega)

/-- Byte m of the frames when k of their bits have been set. -/
def fB (b : Nat → Nat) (k m : Nat) : Nat := part (vm b m) (min 8 (k - 8 * m))
theorem fB_zero {b : Nat → Nat} (h : ∀ j, j < 33 → b j < 256) (m : Nat) (hm : m < 27) : fB b 0 m = 0 := by
  unfold fB
  rw [show min 8 (0 - 8 * m) = 0 by omega]
  exact part_zero _ (vm_lt h m hm)
theorem fB_full (b : Nat → Nat) (m : Nat) (hm : m < 27) : fB b 216 m = vm b m := by
  unfold fB
  rw [show min 8 (216 - 8 * m) = 8 by omega]
  exact part_eight _
theorem fB_other (b : Nat → Nat) (k m : Nat) (h : m ≠ k / 8) : fB b (k + 1) m = fB b k m := by
  unfold fB
  rw [show min 8 (k + 1 - 8 * m) = min 8 (k - 8 * m) by omega]
theorem fB_step {b : Nat → Nat} (h : ∀ j, j < 33 → b j < 256) (k : Nat) (hk : k < 216) : setB (fB b k (k / 8)) k (getB (b (vpos k / 8)) (vpos k)) = fB b (k + 1) (k / 8) := by
  rw [bit_of b k hk, setB_mod, getB_mod]
  unfold fB
  rw [show min 8 (k - 8 * (k / 8)) = k % 8 by omega, show min 8 (k + 1 - 8 * (k / 8)) = k % 8 + 1 by omega]
  exact part_step_all _ (vm_lt h _ (by omega)) _ (by omega)
theorem fB_lt {b : Nat → Nat} (h : ∀ j, j < 33 → b j < 256) (k m : Nat) (hm : m < 27) : fB b k m < 256 := part_lt _ _ (vm_lt h m hm)
end Go.Proofs.Qxb6627477a
