import Derived.Test.Qxb6627477aMain3
namespace Go.Proofs.Qxb6627477a
open Go.RowKit
set_option linter.unusedVariables false

/-- The set bits among the lowest f. -/
def pcF : Nat → Nat → Nat
  | 0, _ => 0
  | f + 1, x => x % 2 + pcF f (x / 2)
def pc (x : Nat) : Nat := pcF 8 x
theorem pcF_le : ∀ f x, pcF f x ≤ f
  | 0, _ => Nat.le_refl _
  | f + 1, x => by
    have := pcF_le f (x / 2)
    simp only [pcF]
    omega
theorem pcF_zero : ∀ f, pcF f 0 = 0
  | 0 => rfl
  | f + 1 => by simp only [pcF, Nat.zero_mod, Nat.zero_div, pcF_zero f]
theorem pc_le (x : Nat) : pc x ≤ 8 := pcF_le 8 x
theorem pc_split : ∀ v, v < 256 → pc v = pc (v &&& 240) + pc (v &&& 15) := by decide +kernel
theorem pc_mid (x y : Nat) (hx : x < 256) (hy : y < 256) : pc ((x &&& 240) ||| (y &&& 15)) = pc (x &&& 240) + pc (y &&& 15) := by
  rw [pc_split _ (or_lt hx hy), nib_hi, nib_lo]

set_option maxHeartbeats 1000000 in
theorem pop_any (x : Nat) (w : World) (hx : x < 256) : Calls Try.prog 7 #[.int .u8 (x : Int)] w fun e w' => e = .returned (.int .i64 (pc x : Nat)) ∧ w' = w := by
  go_enter Try.func7, Try.ntmps7
  go_wp2
  go_loop [0, 3] (fun v n => ∃ y acc f : Nat, v = .int .u8 (y : Int) ∧ n = .int .i64 (acc : Int) ∧ f ≤ 8 ∧ y < 2 ^ f ∧ y < 256 ∧ acc ≤ 8 ∧ Hid (acc + pcF f y = pc x)) (fun v _ => (intOf v).toNat)
  case atStart => exact ⟨x, 0, 8, rfl, rfl, by omega, hx, hx, by omega, by show 0 + _ = _; rw [Nat.zero_add]; rfl⟩
  case round =>
    obtain ⟨y, acc, f, rfl, rfl, hf, hy, hy2, ha, hA⟩ := hrel
    by_cases h0 : y = 0
    · subst h0
      have E : Hid (acc = pc x) := by have e := hA.out; rw [pcF_zero, Nat.add_zero] at e; exact e
      go_wp2
      go_ret
      exact ⟨ret_int (by rw [E.out]), rfl⟩
    · have hne : ((y : Int) != 0) = true := by simp; omega
      have ha1 := and_one y hy2
      have hm2 : y % 2 < 2 := Nat.mod_lt _ (by omega)
      obtain ⟨M, hM⟩ : ∃ M, y % 2 = M := ⟨_, rfl⟩
      rw [hM] at ha1 hm2
      have HM : Hid (y % 2 = M) := hM
      have hpc := pc_le x
      have HF : Hid (pcF f y = M + pcF (f - 1) (y / 2) ∧ 1 ≤ f ∧ y / 2 < 2 ^ (f - 1)) := by
        cases f with
        | zero => simp at hy; omega
        | succ f =>
          refine ⟨by simp only [pcF, hM, Nat.add_sub_cancel], by omega, ?_⟩
          rw [Nat.add_sub_cancel]
          rw [Nat.pow_succ] at hy
          omega
      have hle : acc + M ≤ 8 := by have := hA.out; have := HF.out.1; omega
      have hy0 : 0 < y := by omega
      clear hM h0 hy
      go_wp2
      go_round
      case rel => exact ⟨y / 2, acc + M, f - 1, by go_num, by go_num, by omega, HF.out.2.2, by omega, hle, by
        show _ = _
        have h1 := hA.out
        rw [HF.out.1] at h1
        omega⟩
      case measure => simp [intOf]; omega

/-! ### The plain law of weights -/
def S (g : Nat → Nat) : Nat → Nat
  | 0 => 0
  | n + 1 => S g n + g n
theorem S_le (g : Nat → Nat) (h : ∀ j, g j ≤ 8) : ∀ n, S g n ≤ 8 * n
  | 0 => Nat.le_refl _
  | n + 1 => by
    have := S_le g h n
    have := h n
    simp only [S]
    omega
theorem weight (x : Nat → Nat) (h : Bytes x) : (S (fun m => pc (vm x m)) 27 : Int) = S (fun j => pc (x j)) 33 - ((pc (x 13 &&& 15) + pc (x 19 &&& 240) : Nat) + S (fun j => pc (x (14 + j))) 5 : Int) := by
  have a := pc_mid (x 13) (x 19) (h 13 (by omega)) (h 19 (by omega))
  have b := pc_split (x 13) (h 13 (by omega))
  have c := pc_split (x 19) (h 19 (by omega))
  simp only [S, vm, Nat.reduceLT, Nat.reduceEqDiff, if_true, if_false, Nat.reduceAdd]
  omega

theorem xor_mid (x13 x19 y13 y19 : Nat) : ((x13 ^^^ y13) &&& 240) ||| ((x19 ^^^ y19) &&& 15) = ((x13 &&& 240) ||| (x19 &&& 15)) ^^^ ((y13 &&& 240) ||| (y19 &&& 15)) := by
  apply Nat.eq_of_testBit_eq
  intro i
  have hh : (Nat.testBit 240 i = true ∧ Nat.testBit 15 i = false) ∨ Nat.testBit 240 i = false := by
    by_cases h : i < 8
    · obtain rfl | rfl | rfl | rfl | rfl | rfl | rfl | rfl : i = 0 ∨ i = 1 ∨ i = 2 ∨ i = 3 ∨ i = 4 ∨ i = 5 ∨ i = 6 ∨ i = 7 := by omega
      all_goals decide
    · exact .inr (Nat.testBit_lt_two_pow (Nat.lt_of_lt_of_le (by decide : 240 < 2 ^ 8) (Nat.pow_le_pow_right (by omega) (by omega))))
  simp only [Nat.testBit_and, Nat.testBit_or, Nat.testBit_xor]
  rcases hh with ⟨h1, h2⟩ | h1
  · simp [h1, h2]
  · rw [h1]
    cases Nat.testBit 15 i <;> simp
theorem vm_xor (x y : Nat → Nat) (m : Nat) : vm (fun j => x j ^^^ y j) m = vm x m ^^^ vm y m := by
  unfold vm
  by_cases h1 : m < 13
  · rw [if_pos h1, if_pos h1, if_pos h1]
  · rw [if_neg h1, if_neg h1, if_neg h1]
    by_cases h2 : m = 13
    · rw [if_pos h2, if_pos h2, if_pos h2, xor_mid]
    · rw [if_neg h2, if_neg h2, if_neg h2]
theorem xor_lt {x y : Nat} (hx : x < 256) (hy : y < 256) : x ^^^ y < 256 := Nat.xor_lt_two_pow (n := 8) hx hy
theorem xor_bytes {x y : Nat → Nat} (hx : Bytes x) (hy : Bytes y) : Bytes (fun j => x j ^^^ y j) := fun j hj => xor_lt (hx j hj) (hy j hj)
def zx (x y : Nat → Nat) (k j : Nat) : Nat := if j < k then x j ^^^ y j else 0
theorem zx_step (x y : Nat → Nat) (k : Nat) (j : Nat) (h : j < 33) : (fun j => if j = k then x k ^^^ y k else zx x y k j) j = zx x y (k + 1) j := by
  show (if j = k then x k ^^^ y k else zx x y k j) = _
  unfold zx
  by_cases e : j = k
  · subst e; rw [if_pos rfl, if_pos (by omega)]
  · rw [if_neg e]
    repeat' split
    all_goals first | rfl | omega
theorem zx_full (x y : Nat → Nat) (j : Nat) (h : j < 33) : zx x y 33 j = x j ^^^ y j := by unfold zx; rw [if_pos h]

theorem nil4_l (q : Option Addr) (w : World) : Calls Try.prog 4 #[.pointer none, .pointer q] w fun e w' => e = .returned (.bool true) ∧ Below w.heap.size w w' := by
  go_enter Try.func4, Try.ntmps4
  go_wp2
  go_ret
  exact ⟨rfl, Below.refl _ _⟩
theorem nil4_r (a : Addr) (w : World) : Calls Try.prog 4 #[.pointer (some a), .pointer none] w fun e w' => e = .returned (.bool true) ∧ Below w.heap.size w w' := by
  go_enter Try.func4, Try.ntmps4
  go_wp2
  go_ret
  exact ⟨rfl, Below.refl _ _⟩
end Go.Proofs.Qxb6627477a
