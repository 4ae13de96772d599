import Derived.Test.Qxb6627435aReads
namespace Go.Proofs.Qxb6627435a
open Go.RowKit
set_option linter.unusedVariables false

/-- Span k is as the package makes it: x its number, s its text, y the number of the span ahead. -/
def Fine (x : Int) (s : ByteArray) (k : Nat) (y : Int) : Prop :=
  (x = 0 → s.toList ≠ []) ∧ (x ≠ 0 → s.toList = []) ∧ (0 < k → kind y ≠ kind x ∧ ¬ (kind y = 2 ∧ kind x = 0))
def CanonTo (ns : List Int) (ss : List ByteArray) (n : Nat) : Prop := ∀ k, k < n → Fine ns[k]! ss[k]! k ns[k - 1]!

set_option maxHeartbeats 1000000 in
theorem canon_any (p q : Option Addr) (cn cm n : Nat) (ns : List Int) (ss : List ByteArray) (w : World) (hN : ns.length = n) (hM : ss.length = n) (hn : n ≤ 65536) (hp : Reads w p (ints ns)) (hq : Reads w q (strs ss)) :
    Calls Try.prog 6 #[.slice p n cn, .slice q n cm] w fun e w' => BoolImp (CanonTo ns ss n) e ∧ w' = w := by
  have HP : Hid (Reads w p (ints ns)) := hp
  have HQ : Hid (Reads w q (strs ss)) := hq
  have HN : Hid (ns.length = n) := hN
  have HM : Hid (ss.length = n) := hM
  clear hp hq hN hM
  go_enter Try.func6, Try.ntmps6
  go_wp2
  go_loop [5] (fun i => ∃ k : Nat, i = .int .i64 k ∧ k ≤ n ∧ Hid (CanonTo ns ss k)) (fun i => n - (intOf i).toNat)
  case atStart => exact ⟨0, rfl, by omega, fun k h => by omega⟩
  case round =>
    obtain ⟨k, rfl, hk, hC⟩ := hrel
    by_cases hlt : k < n
    · have kN : k < ns.length := by have := HN.out; omega
      have kM : k < ss.length := by have := HM.out; omega
      have kP : k - 1 < ns.length := by omega
      obtain ⟨b, off, rfl, hc⟩ := Reads.int HP.out k kN
      obtain ⟨b', off', rfl, hd⟩ := Reads.str HQ.out k kM
      obtain ⟨b2, off2, eq2, hp2⟩ := Reads.int HP.out (k - 1) kP
      cases eq2
      rw [← getElem!_pos ns k kN] at hc
      rw [← getElem!_pos ss k kM] at hd
      rw [← getElem!_pos ns (k - 1) kP] at hp2
      obtain ⟨x, hx⟩ : ∃ x, ns[k]! = x := ⟨_, rfl⟩
      obtain ⟨s, hs⟩ : ∃ s, ss[k]! = s := ⟨_, rfl⟩
      obtain ⟨y, hy⟩ : ∃ y, ns[k - 1]! = y := ⟨_, rfl⟩
      rw [hx] at hc
      rw [hs] at hd
      rw [hy] at hp2
      have HX : Hid (∀ P : Prop, Fine x s k y → (CanonTo ns ss (k + 1) → P) → P) := fun P hf h => h fun j hj => by
        by_cases e : j = k
        · subst e; rw [hx, hs, hy]; exact hf
        · exact hC.out j (by omega)
      clear hx hs hy kN kM kP hC
      by_cases h0 : k = 0
      · subst h0
        simp only [Nat.add_zero] at hc hd
        clear hp2
        go_wp2
        all_goals first
          | (go_ret; exact ⟨⟨false, rfl, fun h => by cases h⟩, rfl⟩)
          | skip
        all_goals
          go_round
          case rel => exact HX.out _ (by simp_all [Fine]) fun hC => ⟨0 + 1, by go_num, by omega, hC⟩
          case measure => simp [intOf]; omega
      · have hkp : 0 < (k : Int) := by omega
        have hk1 : (k : Int) - 1 = ((k - 1 : Nat) : Int) := by omega
        go_wp2_with (go_at_call 15; refine (kind_any _ _).mono ?_; rintro e w' ⟨rfl, rfl⟩)
        all_goals first
          | (go_ret; exact ⟨⟨false, rfl, fun h => by cases h⟩, rfl⟩)
          | skip
        all_goals
          go_round
          case rel => exact HX.out _ (by simp_all [Fine]) fun hC => ⟨k + 1, by go_num, by omega, hC⟩
          case measure => simp [intOf]; omega
    · go_wp2
      go_ret
      refine ⟨⟨true, rfl, fun _ => ?_⟩, rfl⟩
      have : k = n := by omega
      rw [← this]; exact hC.out
end Go.Proofs.Qxb6627435a
