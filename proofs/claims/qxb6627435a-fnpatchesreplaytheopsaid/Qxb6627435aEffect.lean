import Derived.Test.Qxb6627435aPut
namespace Go.Proofs.Qxb6627435a
open Go.RowKit
set_option linter.unusedVariables false

theorem eff_len (ns : List Int) (ss : List ByteArray) : ∀ k, (effTo ns ss k).length ≤ k
  | 0 => Nat.le_refl _
  | k + 1 => by
    have := eff_len ns ss k
    simp only [effTo]
    repeat' split
    all_goals (try simp only [List.length_append, List.length_cons, List.length_nil])
    all_goals omega

theorem empty_lit : ({ data := #[] } : ByteArray) = ByteArray.empty := rfl

def EffRel (ns : List Int) (ss : List ByteArray) (n : Nat) (w : World) (v c i : Value) (wr : World) : Prop :=
  ∃ k : Nat, i = .int .i64 k ∧ k ≤ n ∧ c = .int .i64 (baseTo ns k) ∧ OwnsS wr w.heap.size v (effTo ns ss k) ∧ Below w.heap.size w wr

theorem eff_mk {ns : List Int} {ss : List ByteArray} {n k : Nat} {w wr : World} {v c i : Value} {T : List Sg} {b : Int} (hT : effTo ns ss (k + 1) = T) (hb : baseTo ns (k + 1) = b) (hk : k < n) (ho : OwnsS wr w.heap.size v T) (hB : Below w.heap.size w wr) (hc : c = .int .i64 b) (hi : i = .int .i64 ((k + 1 : Nat) : Int)) : Hid (EffRel ns ss n w v c i wr) :=
  ⟨k + 1, hi, hk, by rw [hb]; exact hc, by rw [hT]; exact ho, hB⟩

set_option maxHeartbeats 1000000 in
set_option maxRecDepth 1000000 in
theorem effect_any (p q : Option Addr) (cn cm n : Nat) (ns : List Int) (ss : List ByteArray) (w : World) (hN : ns.length = n) (hM : ss.length = n) (hn : n ≤ 65536) (hp : Reads w p (ints ns)) (hq : Reads w q (strs ss)) (hS : Small ns ss n) (hC : CanonTo ns ss n) :
    Calls Try.prog 10 #[.slice p n cn, .slice q n cm] w fun e w' => ∃ v, e = .returned v ∧ OwnsS w' w.heap.size v (effTo ns ss n) ∧ Below w.heap.size w w' := by
  have HP : Hid (Reads w p (ints ns)) := hp
  have HQ : Hid (Reads w q (strs ss)) := hq
  have HN : Hid (ns.length = n) := hN
  have HM : Hid (ss.length = n) := hM
  have HS : Hid (Small ns ss n) := hS
  have HC : Hid (CanonTo ns ss n) := hC
  clear hp hq hN hM hS hC
  go_enter Try.func10, Try.ntmps10
  go_wp2
  go_loopw [5, 6, 7] (fun v c i wr => Hid (EffRel ns ss n w v c i wr)) (fun _ _ i _ => n - (intOf i).toNat)
  case atStart => exact ⟨0, rfl, by omega, rfl, World.ownsRow_nil _ _ _ _, Below.refl _ _⟩
  case round =>
    obtain ⟨k, rfl, hk, rfl, hown, hB⟩ := hrel
    obtain ⟨bb1, bb2⟩ := baseTo_bd HS.out k hk
    by_cases hlt : k < n
    · have kN : k < ns.length := by have := HN.out; omega
      have kM : k < ss.length := by have := HM.out; omega
      obtain ⟨b, off, rfl, hc⟩ := (Reads.below HP.out hB).int k kN
      obtain ⟨b', off', rfl, hd⟩ := (Reads.below HQ.out hB).str k kM
      have hbl : b < w.heap.size := by
        obtain ⟨b2, off2, eq2, hc2⟩ := HP.out.int k kN
        cases eq2
        exact cell_lt hc2
      obtain ⟨s1, s2, s3⟩ := HS.out k hlt
      have E1 : Hid (baseTo ns (k + 1) = baseTo ns k + (if 0 < ns[k]! then ns[k]! else if ns[k]! < 0 then -ns[k]! else 0)) := rfl
      have E2 : Hid (effTo ns ss (k + 1) = if 0 < ns[k]! then effTo ns ss k ++ [keepSg (baseTo ns k) ns[k]!] else if ns[k]! < 0 then effTo ns ss k else effTo ns ss k ++ [insSg ss[k]!]) := rfl
      have HJ : Hid (0 < ns[k]! → NoJoin (effTo ns ss k) (keepSg (baseTo ns k) ns[k]!)) := eff_noJoin HS.out HC.out hn hlt
      have hlen : (effTo ns ss k).length ≤ 1048576 := by have := eff_len ns ss k; omega
      rw [← getElem!_pos ns k kN] at hc
      rw [← getElem!_pos ss k kM] at hd
      generalize ns[k]! = x at *
      generalize ss[k]! = s at *
      generalize effTo ns ss k = T at *
      generalize baseTo ns k = B at *
      clear kN kM
      by_cases h1 : 0 < x
      · have F1 : Hid (baseTo ns (k + 1) = B + x) := by show _ = _; rw [E1.out, if_pos h1]
        have F2 : Hid (effTo ns ss (k + 1) = T ++ [keepSg B x]) := by show _ = _; rw [E2.out, if_pos h1]
        have hj := show Hid _ from HJ.out h1
        clear E1 E2 HJ
        go_wp2_with fail
        refine (put_keep u5 T _ B x _ w.heap.size hB.size hown hlen (by exact hj.out)).mono ?_
        rintro e w1 ⟨v', rfl, ho, hg⟩
        have hB1 := hB.grown hg hB.size (fun k e => (World.ownsRow.lt hown k e).1)
        have hcx : w1.cell? ⟨b, off + k, none⟩ = some (.int .i64 x) := (hB1.cell (p := ⟨b, off + k, none⟩) hbl).trans ((hB.cell (p := ⟨b, off + k, none⟩) hbl).symm.trans hc)
        clear hg hc hd
        go_wp2
        go_roundw
        case rel => exact eff_mk F2.out F1.out hlt ho hB1 rfl (by go_num)
        case measure => simp [intOf]; omega
      · by_cases h2 : x < 0
        · have F1 : Hid (baseTo ns (k + 1) = B - x) := by show _ = _; rw [E1.out, if_neg h1, if_pos h2]; omega
          have F2 : Hid (effTo ns ss (k + 1) = T) := by show _ = _; rw [E2.out, if_neg h1, if_pos h2]
          clear E1 E2 HJ
          go_wp2
          go_roundw
          case rel => exact eff_mk F2.out F1.out hlt hown hB rfl (by go_num)
          case measure => simp [intOf]; omega
        · have F1 : Hid (baseTo ns (k + 1) = B) := by show _ = _; rw [E1.out, if_neg h1, if_neg h2]; omega
          have F2 : Hid (effTo ns ss (k + 1) = T ++ [insSg s]) := by show _ = _; rw [E2.out, if_neg h1, if_neg h2]
          clear E1 E2 HJ
          go_wp2_with fail
          refine (put_ins u5 T s 0 0 _ w.heap.size hB.size hown hlen).mono ?_
          rintro e w1 ⟨v', rfl, ho, hg⟩
          have hB1 := hB.grown hg hB.size (fun k e => (World.ownsRow.lt hown k e).1)
          go_wp2
          go_roundw
          case rel => exact eff_mk F2.out F1.out hlt ho hB1 rfl (by go_num)
          case measure => simp [intOf]; omega
    · have e : k = n := by omega
      subst e
      go_wp2
      go_ret
      exact ⟨_, rfl, hown, hB⟩
end Go.Proofs.Qxb6627435a
