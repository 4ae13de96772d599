import Derived.Test.Qxb6627435aReplayWalk
namespace Go.Proofs.Qxb6627435a
open Go.RowKit
set_option linter.unusedVariables false

set_option maxHeartbeats 4000000 in
set_option maxRecDepth 1000000 in
theorem walk3 (p q : Option Addr) (cn cm n m : Nat) (ns : List Int) (ss : List ByteArray) (w : World) (hN : ns.length = n) (hM : ss.length = m) (hn : n ≤ 9223372036854775807) (hm : m ≤ 9223372036854775807) (hp : Reads w p (ints ns)) (hq : Reads w q (strs ss)) (hss : ∀ s ∈ ss, s.size ≤ maxLen) :
    Calls Try.prog 3 #[.slice p n cn, .slice q m cm] w fun e w' => e = .returned (.bool true) ∧ Below w.heap.size w w' := by
  have C5 := bytes5 p q n cn cm ss w hn (by omega) hq hss
  rw [hM] at C5
  have HP : Hid (Reads w p (ints ns)) := hp
  have HQ : Hid (Reads w q (strs ss)) := hq
  have HN : Hid (ns.length = n) := hN
  have HM : Hid (ss.length = m) := hM
  have HSS : Hid (∀ s ∈ ss, s.size ≤ maxLen) := hss
  clear hp hq hN hM hss
  have hnn := fun W a n c => run_neq_slice_nil_any (P := Try.prog) W 22 3 a n c 0 0 Try.underlying22
  have hnm := fun W a n c => run_neq_slice_nil_any (P := Try.prog) W 23 9 a n c 0 0 Try.underlying23
  by_cases h1 : 131072 < (n : Int)
  · go_enter Try.func3, Try.ntmps3
    go_wp2_with fail
    refine C5.mono ?_
    rintro e w1 ⟨⟨r, rfl, _⟩, rfl⟩
    cases r
    · go_wp2
      go_ret
      exact ⟨rfl, Below.refl _ _⟩
    · go_wp2
      go_ret
      exact ⟨rfl, Below.refl _ _⟩
  by_cases h2 : 65536 < (m : Int)
  · go_enter Try.func3, Try.ntmps3
    go_wp2_with fail
    refine C5.mono ?_
    rintro e w1 ⟨⟨r, rfl, _⟩, rfl⟩
    cases r
    · go_wp2
      go_ret
      exact ⟨rfl, Below.refl _ _⟩
    · go_wp2
      go_ret
      exact ⟨rfl, Below.refl _ _⟩
  go_enter Try.func3, Try.ntmps3
  go_wp2_with fail
  refine C5.mono ?_
  rintro e w1 ⟨⟨r, rfl, hsh⟩, rfl⟩
  clear C5
  cases r
  · go_wp2
    go_ret
    exact ⟨rfl, Below.refl _ _⟩
  have HSH : Hid (Short ss m) := hsh rfl
  clear hsh
  go_upto_if 31 with fail
  go_cut [0, 5] (fun v z wx => ∃ p' c', v = .slice p' n c' ∧ Hid (Reads wx p' (ints ns)) ∧ Below w1.heap.size w1 wx)
  case first =>
    cases p with
    | none =>
      go_wp2
      go_meet
      case rel => exact ⟨_, _, rfl, HP, Below.refl _ _⟩
    | some a =>
      have hmk := run_mk3 n (by omega)
      obtain ⟨c1, c2, c3⟩ := cp3 (cn := cn) HN.out HP.out
      have C2 := show Hid _ from c2
      clear c2
      go_wp2
      go_meet
      case rel => exact ⟨_, _, rfl, C2, c3⟩
  case rest =>
  obtain ⟨p', c', rfl, HP', hB⟩ := hcut
  clear hnn
  go_upto_if 40 with fail
  go_cut [1, 6] (fun v z wx => ∃ q' d', v = .slice q' m d' ∧ Hid (Reads wx q' (strs ss)) ∧ Hid (Reads wx p' (ints ns)) ∧ Below w1.heap.size w1 wx)
  case first =>
    cases q with
    | none =>
      go_wp2
      go_meet
      case rel => exact ⟨_, _, rfl, HQ.out.below hB, HP', hB⟩
    | some a =>
      have hmk := run_mk9 m (by omega)
      obtain ⟨c1, c2, c3⟩ := cp9 (cn := cm) HM.out (HQ.out.below hB)
      have C2 := show Hid _ from c2
      clear c2
      go_wp2
      go_meet
      case rel => exact ⟨_, _, rfl, C2, HP'.out.below c3, hB.trans (c3.mono hB.size)⟩
  case rest =>
  clear HP' hB
  obtain ⟨q', d', rfl, HQ', HP', hB⟩ := hcut
  clear hnm HP HQ
  by_cases h3 : 1048576 < 8 * (n : Int) + 16 * (m : Int)
  · go_wp2
    go_ret
    exact ⟨rfl, hB⟩
  go_wp2
  go_loop [7, 8] (fun t i => ∃ k z : Nat, t = .int .i64 z ∧ i = .int .i64 k ∧ k ≤ m ∧ z ≤ 1048576) (fun _ i => m - (intOf i).toNat)
  case atStart => exact ⟨0, 8 * n + 16 * m, by go_num, rfl, by omega, by omega⟩
  case round =>
    obtain ⟨k, z, rfl, rfl, hk, hz⟩ := hrel
    by_cases hlt : k < m
    · have kM : k < ss.length := by have := HM.out; omega
      obtain ⟨b, off, rfl, hc⟩ := Reads.str HQ'.out k kM
      have hb := HSH.out k hlt
      rw [← getElem!_pos ss k kM] at hc
      generalize ss[k]! = s at *
      clear kM
      by_cases h5 : z + s.size ≤ 1048576
      · go_wp2
        go_round
        case rel => exact ⟨k + 1, z + s.size, by go_num, by go_num, by omega, by omega⟩
        case measure => simp [intOf]; omega
      · go_wp2
        go_ret
        exact ⟨rfl, hB⟩
    · have e : k = m := by omega
      subst e
      by_cases h7 : n = k
      · subst h7
        go_wp2_with fail
        clear hlt hk h3 h2 h1
        go_loop [9] (fun i => ∃ k : Nat, i = .int .i64 k ∧ k ≤ n ∧ Hid (∀ j, j < k → ns[j]! ≤ 1099511627776 ∧ -1099511627776 ≤ ns[j]!)) (fun i => n - (intOf i).toNat)
        case atStart => exact ⟨0, rfl, by omega, fun j h => by omega⟩
        case round =>
          obtain ⟨k, rfl, hk, hJ⟩ := hrel
          by_cases hlt : k < n
          · have kN : k < ns.length := by have := HN.out; omega
            obtain ⟨b, off, rfl, hc⟩ := Reads.int HP'.out k kN
            rw [← getElem!_pos ns k kN] at hc
            obtain ⟨x, hx⟩ : ∃ x, ns[k]! = x := ⟨_, rfl⟩
            have HX : Hid (ns[k]! = x) := hx
            rw [hx] at hc
            clear kN hx
            by_cases h4 : 1099511627776 < x
            · go_wp2
              go_ret
              exact ⟨rfl, hB⟩
            · by_cases h5 : x < -1099511627776
              · go_wp2
                go_ret
                exact ⟨rfl, hB⟩
              · go_wp2
                go_round
                case rel => exact ⟨k + 1, by go_num, by omega, fun j hj => by
                  by_cases e : j = k
                  · subst e; rw [HX.out]; omega
                  · exact hJ.out j (by omega)⟩
                case measure => simp [intOf]; omega
          · have e : k = n := by omega
            subst e
            have HSm : Hid (Small ns ss k) := fun j hj => ⟨(hJ.out j hj).1, (hJ.out j hj).2, HSH.out j hj⟩
            clear hJ hlt hk
            have hk : k ≤ 65536 := by omega
            go_wp2_with fail
            refine (canon_any p' q' c' d' k ns ss _ HN.out HM.out hk HP'.out HQ'.out).mono ?_
            rintro e w2 ⟨⟨r, rfl, hcan⟩, rfl⟩
            cases r
            · go_wp2
              go_ret
              exact ⟨rfl, hB⟩
            have HC : Hid (CanonTo ns ss k) := hcan rfl
            clear hcan
            go_wp2_with fail
            refine (measure_any p' q' c' d' k ns ss _ HN.out HM.out hk HP'.out HQ'.out HSm.out).mono ?_
            rintro e w3 ⟨rfl, b3, hIR⟩
            have HP3 : Hid (Reads w3 p' (ints ns)) := HP'.out.below b3
            have HQ3 : Hid (Reads w3 q' (strs ss)) := HQ'.out.below b3
            have hB3 : Below w1.heap.size w1 w3 := hB.trans (b3.mono hB.size)
            clear HP' HQ' b3 hB
            go_wp2_with fail
            refine (newOp_any p' q' c' d' k w2.heap.size _ _ ns ss _ HN.out HM.out hk HP3.out HQ3.out hIR).mono ?_
            rintro e w4 ⟨rfl, b4, hSp⟩
            have HP4 : Hid (Reads w4 p' (ints ns)) := HP3.out.below b4
            have HQ4 : Hid (Reads w4 q' (strs ss)) := HQ3.out.below b4
            have hB4 : Below w1.heap.size w1 w4 := hB3.trans (b4.mono hB3.size)
            have HSp4 : Hid (Spans w4 (w3.heap.size + 1) ns ss k) := hSp
            clear hIR b4 hSp HP3 HQ3 hB3
            go_wp2_with fail
            refine (patches_any (w3.heap.size + 1) k _ _ ns ss _ hk (HSp4.out.below ((Below.refl _ _).alloc (Nat.le_refl _) _)) HSm.out HC.out).mono ?_
            rintro e w5 ⟨v, rfl, hown, b5⟩
            have b45 : Below w4.heap.size w4 w5 := ((Below.refl _ _).alloc (Nat.le_refl _) _).trans (b5.mono (by simp))
            have HP5 : Hid (Reads w5 p' (ints ns)) := HP4.out.below b45
            have HQ5 : Hid (Reads w5 q' (strs ss)) := HQ4.out.below b45
            have hB5 : Below w1.heap.size w1 w5 := hB4.trans (b45.mono hB4.size)
            have hKe := show Hid _ from kept_of HSm.out HC.out
            have hRe := show Hid _ from replays HSm.out HC.out hk
            clear b5 b45 HSp4 hB4 HP4 HQ4
            generalize (patTo ns ss k).ps = P at *
            generalize hOB : (w4.alloc _).heap.size = OB at *
            clear hOB
            go_wp2_with fail
            refine (effect_any p' q' c' d' k ns ss _ HN.out HM.out hk HP5.out HQ5.out HSm.out HC.out).mono ?_
            rintro e w6 ⟨vE, rfl, hoE, b6⟩
            have hown6 := hown.below b6
            have hB6 : Below w1.heap.size w1 w6 := hB5.trans (b6.mono hB5.size)
            clear b6 hown HP5 HQ5 hB5
            go_wp2_with fail
            refine (replay_any v P OB k ns ss _ hown6 HSm.out hk hKe.out hRe.out).mono ?_
            rintro e w7 ⟨vR, rfl, hoR, b7⟩
            have hoE7 := hoE.below b7
            have hB7 : Below w1.heap.size w1 w7 := hB6.trans (b7.mono hB6.size)
            have hTl : (effTo ns ss k).length ≤ 1048576 := by have := eff_len ns ss k; omega
            clear b7 hoE hown6 hB6
            go_wp2_with fail
            refine (same_any vR vE (effTo ns ss k) _ _ _ hoR hoE7 hTl).mono ?_
            rintro e w8 ⟨rfl, nn, rfl⟩
            go_wp2
            go_ret
            exact ⟨rfl, belowN hB7 _⟩
      · have h8 : ((n : Int) != (k : Int)) = true := by simp; omega
        clear h7
        go_wp2
        go_ret
        exact ⟨rfl, hB⟩
end Go.Proofs.Qxb6627435a
