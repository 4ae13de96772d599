import Derived.Test.Qxb6627435aEffect
namespace Go.Proofs.Qxb6627435a
open Go.RowKit
set_option linter.unusedVariables false

def sgAt (T : List Sg) (j : Nat) : Sg := T.getD j ⟨false, 0, 0, ByteArray.empty⟩
theorem sgAt_eq (T : List Sg) (j : Nat) (h : j < T.length) : T[j] = sgAt T j := by simp [sgAt, h]

set_option maxHeartbeats 2000000 in
set_option maxRecDepth 1000000 in
theorem same_any (v1 v2 : Value) (T : List Sg) (w : World) (B1 B2 : Nat) (h1 : OwnsS w B1 v1 T) (h2 : OwnsS w B2 v2 T) (hT : T.length ≤ 1048576) :
    Calls Try.prog 12 #[v1, v2] w fun e w' => e = .returned (.bool true) ∧ ∃ n, w' = w.drewN n := by
  obtain ⟨po, cap, rfl, hat1⟩ := h1.shape
  obtain ⟨qo, cap2, rfl, hat2⟩ := h2.shape
  have H1 := show Hid _ from hat1 w h1
  have H2 := show Hid _ from hat2 w h2
  clear hat1 hat2 h1 h2
  obtain ⟨N, hN⟩ : ∃ N, T.length = N := ⟨_, rfl⟩
  have HN : Hid (T.length = N) := hN
  rw [hN] at hT ⊢
  clear hN
  go_enter Try.func12, Try.ntmps12
  go_wp2
  go_loopw [5] (fun i wr => ∃ k n : Nat, i = .int .i64 k ∧ k ≤ N ∧ Hid (wr = w.drewN n)) (fun i _ => N - (intOf i).toNat)
  case atStart => exact ⟨0, 0, rfl, by omega, rfl⟩
  case round =>
    obtain ⟨k, n, rfl, hk, hw⟩ := hrel
    by_cases hlt : k < N
    · have kT : k < T.length := by have := HN.out; omega
      obtain ⟨g, rfl, a0, a1, a2, a3⟩ := H1.out k kT
      obtain ⟨g', rfl, b0, b1, b2, b3⟩ := H2.out k kT
      rw [sgAt_eq T k kT] at a0 a1 a2 a3 b0 b1 b2 b3
      have hcw : ∀ a, wr.cell? a = w.cell? a := fun a => by rw [hw.out]; rfl
      rw [← hcw] at a0 a1 a2 a3 b0 b1 b2 b3
      clear hcw kT
      generalize sgAt T k = t at *
      obtain ⟨o, x, y, s⟩ := t
      simp only at a0 a1 a2 a3 b0 b1 b2 b3
      cases o
      · go_wp2_with fail
        go_quiet (fail)
        go_wp2_with fail
        go_quiet (fail)
        go_wp2
        go_roundw
        case rel => exact ⟨k + 1, _, by go_num, by omega, by show _ = _; rw [hw.out, World.drewN_drewN]⟩
        case measure => simp [intOf]; omega
      · go_wp2_with fail
        go_quiet (fail)
        go_wp2_with fail
        go_quiet (fail)
        go_wp2
        go_roundw
        case rel => exact ⟨k + 1, _, by go_num, by omega, by show _ = _; rw [hw.out, World.drewN_drewN]⟩
        case measure => simp [intOf]; omega
    · go_wp2
      go_ret
      exact ⟨rfl, n, hw.out⟩
end Go.Proofs.Qxb6627435a
