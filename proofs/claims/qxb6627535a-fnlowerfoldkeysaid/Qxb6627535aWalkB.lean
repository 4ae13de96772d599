import Derived.Test.Qxb6627535aWalkA
namespace Go.Proofs.Qxb6627535a
open Go.RowKit
open Plain (loI low NoUp FoldEq Alike)
set_option linter.unusedVariables false

set_option maxHeartbeats 1000000 in
set_option maxRecDepth 1000000 in
theorem fold_no (x y : ByteArray) (w : World) (hx : x.size ≤ maxLen) (hy : y.size ≤ maxLen) (h : ¬ FoldEq x y) :
    Calls Try.prog 9 #[.string x, .string y] w fun e w' => e = .returned (.bool false) ∧ w' = w := by
  unfold maxLen at hx hy
  by_cases hs : x.size = y.size
  · have H : Hid (¬ FoldEq x y) := h
    have hb1 : (x.size : Int) ≤ y.size := by omega
    have hb2 : (y.size : Int) ≤ x.size := by omega
    have hne : ((x.size : Int) != (y.size : Int)) = false := by simp; omega
    clear h hs
    go_enter Try.func9, Try.ntmps9
    go_wp2
    go_loop [5] (fun i => ∃ k : Nat, k ≤ x.size ∧ i = .int .i64 k ∧ Hid (∀ j (h1 : j < x.size) (h2 : j < y.size), j < k → loI x[j].toNat = loI y[j].toNat)) (fun i => x.size - (intOf i).toNat)
    case atStart => exact ⟨0, Nat.zero_le _, rfl, fun j _ _ h => by omega⟩
    case round =>
      obtain ⟨k, hk, rfl, hj⟩ := hrel
      by_cases hlt : k < x.size
      · have hlt2 : k < y.size := by omega
        have step : Hid (Plain.Alike x[k].toNat y[k].toNat → ∀ j (h1 : j < x.size) (h2 : j < y.size), j < k + 1 → loI x[j].toNat = loI y[j].toNat) := fun hA j h1 h2 h3 => by
          by_cases e' : j = k
          · subst e'; exact (Plain.alike_iff _ _ (byte_lt _) (byte_lt _)).1 hA
          · exact hj.out j h1 h2 (by omega)
        by_cases e : x[k].toNat = y[k].toNat
        · have q : ((x[k].toNat : Int) == (y[k].toNat : Int)) = true := by rw [beq_iff_eq]; omega
          have st := show Hid _ from step.out (.inl e)
          clear e
          go_wp2
          go_round
          case rel => exact ⟨k + 1, by omega, by go_num, st⟩
          case measure => simp [intOf]; omega
        · have q : ((x[k].toNat : Int) == (y[k].toNat : Int)) = false := by rw [beq_eq_false_iff_ne]; omega
          have hxr := u8_xor_nat _ _ (byte_lt x[k]) (byte_lt y[k])
          have hor' : bits .or .u8 (x[k].toNat : Int) 32 = ((x[k].toNat ||| 32 : Nat) : Int) := u8_or_nat _ 32 (byte_lt x[k]) (by omega)
          by_cases a1 : x[k].toNat ^^^ y[k].toNat = 32
          · have q2 : (bits .xor .u8 (x[k].toNat : Int) (y[k].toNat : Int) != 32) = false := by rw [hxr, a1]; rfl
            by_cases a2 : 97 ≤ x[k].toNat ||| 32
            · by_cases a3 : x[k].toNat ||| 32 ≤ 122
              · have q3 : 97 ≤ bits .or .u8 (x[k].toNat : Int) 32 := by rw [hor']; omega
                have q4 : bits .or .u8 (x[k].toNat : Int) 32 ≤ 122 := by rw [hor']; omega
                have st := show Hid _ from step.out (.inr ⟨a1, a2, a3⟩)
                clear hxr hor' a1 a2 a3 e
                go_wp2
                go_round
                case rel => exact ⟨k + 1, by omega, by go_num, st⟩
                case measure => simp [intOf]; omega
              · have q3 : 97 ≤ bits .or .u8 (x[k].toNat : Int) 32 := by rw [hor']; omega
                have q4 : 122 < bits .or .u8 (x[k].toNat : Int) 32 := by rw [hor']; omega
                clear hxr hor' a1 a2 a3 e
                go_wp2
                go_ret
                exact ⟨rfl, rfl⟩
            · have q3 : bits .or .u8 (x[k].toNat : Int) 32 < 97 := by rw [hor']; omega
              clear hxr hor' a1 a2 e
              go_wp2
              go_ret
              exact ⟨rfl, rfl⟩
          · have q2 : (bits .xor .u8 (x[k].toNat : Int) (y[k].toNat : Int) != 32) = true := by
              rw [hxr, bne_iff_ne]; omega
            clear hxr hor' a1 e
            go_wp2
            go_ret
            exact ⟨rfl, rfl⟩
      · exact absurd ⟨by omega, fun j h1 h2 => hj.out j h1 h2 (by omega)⟩ H.out
  · have hne : ((x.size : Int) != (y.size : Int)) = true := by simp; omega
    clear h hs
    go_enter Try.func9, Try.ntmps9
    go_wp2
    go_ret
    exact ⟨rfl, rfl⟩

/-! ### zzLowerByteModel -/
def caps : ByteArray := { data := #[65, 66, 67, 68, 69, 70, 71, 72, 73, 74, 75, 76, 77, 78, 79, 80, 81, 82, 83, 84, 85, 86, 87, 88, 89, 90] }
def smalls : ByteArray := { data := #[97, 98, 99, 100, 101, 102, 103, 104, 105, 106, 107, 108, 109, 110, 111, 112, 113, 114, 115, 116, 117, 118, 119, 120, 121, 122] }
theorem caps_at : ∀ k, (h : k < 26) → (caps[k]'h).toNat = 65 + k := by decide +kernel
theorem smalls_at : ∀ k, (h : k < 26) → (smalls[k]'h).toNat = 97 + k := by decide +kernel
theorem idx_caps (W : World) (k : Nat) (h : k < 26) :
    (Instr.index 9 (.string caps) (.int .i64 k)).run Try.prog W = .ok (.int .u8 (65 + k)) W := by
  rw [run_index_string W 9 caps .i64 _ Try.underlying9, dif_pos ⟨by omega, show (k : Int) < (26 : Nat) by omega⟩]
  have e : ((k : Int)).toNat = k := by omega
  have e2 : ((caps[k]'h).toNat : Int) = 65 + k := by rw [caps_at k h]; omega
  simp only [e]
  exact congrArg (fun x => Result.ok (Value.int .u8 x) W) e2
theorem idx_smalls (W : World) (k : Nat) (h : k < 26) :
    (Instr.index 9 (.string smalls) (.int .i64 k)).run Try.prog W = .ok (.int .u8 (97 + k)) W := by
  rw [run_index_string W 9 smalls .i64 _ Try.underlying9, dif_pos ⟨by omega, show (k : Int) < (26 : Nat) by omega⟩]
  have e : ((k : Int)).toNat = k := by omega
  have e2 : ((smalls[k]'h).toNat : Int) = 97 + k := by rw [smalls_at k h]; omega
  simp only [e]
  exact congrArg (fun x => Result.ok (Value.int .u8 x) W) e2

set_option maxHeartbeats 1000000 in
set_option maxRecDepth 1000000 in
theorem model_any (n : Int) (w : World) (h0 : 0 ≤ n) (h1 : n ≤ 255) :
    Calls Try.prog 12 #[.int .u8 n] w fun e w' => e = .returned (.int .u8 (loI n)) ∧ w' = w := by
  go_enter Try.func12, Try.ntmps12
  go_wp2
  go_loop [3] (fun i => ∃ k : Nat, k ≤ 26 ∧ i = .int .i64 k ∧ Hid (∀ j : Nat, j < k → n ≠ 65 + j)) (fun i => 26 - (intOf i).toNat)
  case atStart => exact ⟨0, Nat.zero_le _, rfl, fun j h => by omega⟩
  case round =>
    obtain ⟨k, hk, rfl, hj⟩ := hrel
    by_cases hlt : k < 26
    · have hi := fun W => idx_caps W k hlt
      have hi2 := fun W => idx_smalls W k hlt
      unfold caps at hi
      unfold smalls at hi2
      by_cases e : n = 65 + k
      · have q : ((65 + (k : Int)) == n) = true := by rw [beq_iff_eq]; omega
        have E : Hid (n = 65 + k) := e
        clear e
        go_wp2
        go_ret
        refine ⟨ret_int ?_, rfl⟩
        have e := E.out
        rw [loI, if_pos (by omega)]
        omega
      · have q : ((65 + (k : Int)) == n) = false := by rw [beq_eq_false_iff_ne]; omega
        have E : Hid (¬ n = 65 + k) := e
        clear e
        go_wp2
        go_round
        case rel => exact ⟨k + 1, by omega, by go_num, fun j h => by
          have e := E.out
          by_cases e' : j = k
          · omega
          · exact hj.out j (by omega)⟩
        case measure => simp [intOf]; omega
    · go_wp2
      go_ret
      refine ⟨ret_int ?_, rfl⟩
      rw [loI, if_neg]
      intro h
      exact hj.out (n - 65).toNat (by omega) (by omega)
end Go.Proofs.Qxb6627535a
