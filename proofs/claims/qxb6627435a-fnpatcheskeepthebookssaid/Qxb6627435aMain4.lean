import Derived.Test.Qxb6627435aCopy
namespace Go.Proofs.Qxb6627435a
open Go.RowKit
set_option linter.unusedVariables false

set_option maxHeartbeats 4000000 in
set_option maxRecDepth 1000000 in
theorem walk4 (p q : Option Addr) (cn cm n m : Nat) (ns : List Int) (ss : List ByteArray) (w : World) (hN : ns.length = n) (hM : ss.length = m) (hn : n ≤ 9223372036854775807) (hm : m ≤ 9223372036854775807) (hp : Reads w p (ints ns)) (hq : Reads w q (strs ss)) (hss : ∀ s ∈ ss, s.size ≤ maxLen) :
    Calls Try.prog 4 #[.slice p n cn, .slice q m cm] w fun e w' => e = .returned (.bool true) ∧ Below w.heap.size w w' := by
  have C13 := bytes13 p q n cn cm ss w hn (by omega) hq hss
  rw [hM] at C13
  have HP : Hid (Reads w p (ints ns)) := hp
  have HQ : Hid (Reads w q (strs ss)) := hq
  have HN : Hid (ns.length = n) := hN
  have HM : Hid (ss.length = m) := hM
  have HSS : Hid (∀ s ∈ ss, s.size ≤ maxLen) := hss
  clear hp hq hN hM hss
  have hnn := fun W a n c => run_neq_slice_nil_any (P := Try.prog) W 22 3 a n c 0 0 Try.underlying22
  have hnm := fun W a n c => run_neq_slice_nil_any (P := Try.prog) W 23 9 a n c 0 0 Try.underlying23
  by_cases h1 : 131072 < (n : Int)
  · go_enter Try.func4, Try.ntmps4
    go_wp2_with fail
    refine C13.mono ?_
    rintro e w1 ⟨⟨r, rfl, _⟩, rfl⟩
    cases r
    · go_wp2
      go_ret
      exact ⟨rfl, Below.refl _ _⟩
    · go_wp2
      go_ret
      exact ⟨rfl, Below.refl _ _⟩
  by_cases h2 : 65536 < (m : Int)
  · go_enter Try.func4, Try.ntmps4
    go_wp2_with fail
    refine C13.mono ?_
    rintro e w1 ⟨⟨r, rfl, _⟩, rfl⟩
    cases r
    · go_wp2
      go_ret
      exact ⟨rfl, Below.refl _ _⟩
    · go_wp2
      go_ret
      exact ⟨rfl, Below.refl _ _⟩
  go_enter Try.func4, Try.ntmps4
  go_wp2_with fail
  refine C13.mono ?_
  rintro e w1 ⟨⟨r, rfl, hsh⟩, rfl⟩
  clear C13
  cases r
  · go_wp2
    go_ret
    exact ⟨rfl, Below.refl _ _⟩
  have HSH : Hid (Short ss m) := hsh rfl
  clear hsh
  go_upto_if 38 with fail
  go_cut [0, 5] (fun v z wx => ∃ p' c', v = .slice p' n c' ∧ Hid (Reads wx p' (ints ns)) ∧ Below w1.heap.size w1 wx)
  case first =>
    cases p with
    | none =>
      go_wp2
      go_meet
      case rel => exact ⟨_, _, rfl, HP, Below.refl _ _⟩
    | some a =>
      have hmk := run_mk3 n (by omega)
      obtain ⟨c1, c2, c3⟩ := cp3 (cn := cn) HN.out HP.out
      have C2 := show Hid _ from c2
      clear c2
      go_wp2
      go_meet
      case rel => exact ⟨_, _, rfl, C2, c3⟩
  case rest =>
  obtain ⟨p', c', rfl, HP', hB⟩ := hcut
  clear hnn
  go_upto_if 47 with fail
  go_cut [1, 6] (fun v z wx => ∃ q' d', v = .slice q' m d' ∧ Hid (Reads wx q' (strs ss)) ∧ Hid (Reads wx p' (ints ns)) ∧ Below w1.heap.size w1 wx)
  case first =>
    cases q with
    | none =>
      go_wp2
      go_meet
      case rel => exact ⟨_, _, rfl, HQ.out.below hB, HP', hB⟩
    | some a =>
      have hmk := run_mk9 m (by omega)
      obtain ⟨c1, c2, c3⟩ := cp9 (cn := cm) HM.out (HQ.out.below hB)
      have C2 := show Hid _ from c2
      clear c2
      go_wp2
      go_meet
      case rel => exact ⟨_, _, rfl, C2, HP'.out.below c3, hB.trans (c3.mono hB.size)⟩
  case rest =>
  clear HP' hB
  obtain ⟨q', d', rfl, HQ', HP', hB⟩ := hcut
  clear hnm HP HQ
  by_cases h3 : 1048576 < 8 * (n : Int) + 16 * (m : Int)
  · go_wp2
    go_ret
    exact ⟨rfl, hB⟩
  go_wp2
  go_loop [7, 8] (fun t i => ∃ k z : Nat, t = .int .i64 z ∧ i = .int .i64 k ∧ k ≤ m ∧ z ≤ 1048576) (fun _ i => m - (intOf i).toNat)
  case atStart => exact ⟨0, 8 * n + 16 * m, by go_num, rfl, by omega, by omega⟩
  case round =>
    obtain ⟨k, z, rfl, rfl, hk, hz⟩ := hrel
    by_cases hlt : k < m
    · have kM : k < ss.length := by have := HM.out; omega
      obtain ⟨b, off, rfl, hc⟩ := Reads.str HQ'.out k kM
      have hb := HSH.out k hlt
      rw [← getElem!_pos ss k kM] at hc
      generalize ss[k]! = s at *
      clear kM
      by_cases h5 : z + s.size ≤ 1048576
      · go_wp2
        go_round
        case rel => exact ⟨k + 1, z + s.size, by go_num, by go_num, by omega, by omega⟩
        case measure => simp [intOf]; omega
      · go_wp2
        go_ret
        exact ⟨rfl, hB⟩
    · have e : k = m := by omega
      subst e
      by_cases h7 : n = k
      · subst h7
        go_wp2_with fail
        clear hlt hk h3 h2 h1
        go_loop [9] (fun i => ∃ k : Nat, i = .int .i64 k ∧ k ≤ n ∧ Hid (∀ j, j < k → ns[j]! ≤ 1099511627776 ∧ -1099511627776 ≤ ns[j]!)) (fun i => n - (intOf i).toNat)
        case atStart => exact ⟨0, rfl, by omega, fun j h => by omega⟩
        case round =>
          obtain ⟨k, rfl, hk, hJ⟩ := hrel
          by_cases hlt : k < n
          · have kN : k < ns.length := by have := HN.out; omega
            obtain ⟨b, off, rfl, hc⟩ := Reads.int HP'.out k kN
            rw [← getElem!_pos ns k kN] at hc
            obtain ⟨x, hx⟩ : ∃ x, ns[k]! = x := ⟨_, rfl⟩
            have HX : Hid (ns[k]! = x) := hx
            rw [hx] at hc
            clear kN hx
            by_cases h4 : 1099511627776 < x
            · go_wp2
              go_ret
              exact ⟨rfl, hB⟩
            · by_cases h5 : x < -1099511627776
              · go_wp2
                go_ret
                exact ⟨rfl, hB⟩
              · go_wp2
                go_round
                case rel => exact ⟨k + 1, by go_num, by omega, fun j hj => by
                  by_cases e : j = k
                  · subst e; rw [HX.out]; omega
                  · exact hJ.out j (by omega)⟩
                case measure => simp [intOf]; omega
          · have e : k = n := by omega
            subst e
            have HSm : Hid (Small ns ss k) := fun j hj => ⟨(hJ.out j hj).1, (hJ.out j hj).2, HSH.out j hj⟩
            clear hJ hlt hk
            have hk : k ≤ 65536 := by omega
            go_wp2_with fail
            refine (canon_any p' q' c' d' k ns ss _ HN.out HM.out hk HP'.out HQ'.out).mono ?_
            rintro e w2 ⟨⟨r, rfl, hcan⟩, rfl⟩
            cases r
            · go_wp2
              go_ret
              exact ⟨rfl, hB⟩
            have HC : Hid (CanonTo ns ss k) := hcan rfl
            clear hcan
            go_wp2_with fail
            skip
            go_loop [10, 11, 12, 13] (fun ru de ins i => ∃ j : Nat, i = .int .i64 j ∧ j ≤ k ∧ ru = .int .i64 (runsTo ns j : Nat) ∧ de = .int .i64 (delsTo ns j) ∧ ins = .int .i64 (insTo ns ss j)) (fun _ _ _ i => k - (intOf i).toNat)
            case atStart => exact ⟨0, rfl, by omega, rfl, rfl, rfl⟩
            case round =>
              obtain ⟨j, rfl, hj, rfl, rfl, rfl⟩ := hrel
              obtain ⟨rl, d1, d2, i1, i2⟩ := counts_bd HSm.out hk j hj
              by_cases hlt : j < k
              · have kN : j < ns.length := by have := HN.out; omega
                have kM : j < ss.length := by have := HM.out; omega
                have kP : j - 1 < ns.length := by omega
                obtain ⟨b, off, rfl, hc⟩ := Reads.int HP'.out j kN
                obtain ⟨b', off', rfl, hd⟩ := Reads.str HQ'.out j kM
                obtain ⟨b2, off2, eq2, hp2⟩ := Reads.int HP'.out (j - 1) kP
                cases eq2
                rw [← getElem!_pos ns j kN] at hc
                rw [← getElem!_pos ss j kM] at hd
                rw [← getElem!_pos ns (j - 1) kP] at hp2
                obtain ⟨s1, s2, s3⟩ := HSm.out j hlt
                have E1 : Hid (runsTo ns (j + 1) = runsTo ns j + (if ns[j]! ≤ 0 ∧ (j = 0 ∨ 0 < ns[j - 1]!) then 1 else 0)) := rfl
                have E2 : Hid (delsTo ns (j + 1) = delsTo ns j - (if ns[j]! < 0 then ns[j]! else 0)) := rfl
                have E3 : Hid (insTo ns ss (j + 1) = insTo ns ss j + (if ns[j]! = 0 then ((Lib.runeCount ss[j]! : Nat) : Int) else 0)) := rfl
                generalize ns[j]! = x at *
                generalize ss[j]! = s at *
                generalize ns[j - 1]! = y at *
                generalize delsTo ns j = D at *
                generalize insTo ns ss j = I at *
                generalize runsTo ns j = R at *
                clear kN kM kP
                have hrc := Lib.runeCount_le s
                have C := count_any s w2 s3
                generalize Lib.runeCount s = M at *
                by_cases h0 : j = 0
                · subst h0
                  simp only [Nat.add_zero] at hc hd
                  clear hp2
                  by_cases hx : 0 < x
                  · have q0 : (x == 0) = false := by rw [beq_eq_false_iff_ne]; omega
                    have F1 : Hid (runsTo ns (0 + 1) = R) := by show _ = _; rw [E1.out, if_neg (by omega)] <;> omega
                    have F2 : Hid (delsTo ns (0 + 1) = D) := by show _ = _; rw [E2.out, if_neg (by omega)] <;> omega
                    have F3 : Hid (insTo ns ss (0 + 1) = I) := by show _ = _; rw [E3.out, if_neg (by omega)] <;> omega
                    clear E1 E2 E3
                    go_wp2
                    go_round
                    case rel => exact ⟨0 + 1, by go_num, by omega, by rw [F1.out] <;> go_num, by rw [F2.out] <;> go_num, by rw [F3.out] <;> go_num⟩
                    case measure => simp [intOf]; omega
                  · by_cases hx2 : x < 0
                    · have q0 : (x == 0) = false := by rw [beq_eq_false_iff_ne]; omega
                      have F1 : Hid (runsTo ns (0 + 1) = R + 1) := by show _ = _; rw [E1.out, if_pos (by omega)] <;> omega
                      have F2 : Hid (delsTo ns (0 + 1) = D - x) := by show _ = _; rw [E2.out, if_pos (by omega)] <;> omega
                      have F3 : Hid (insTo ns ss (0 + 1) = I) := by show _ = _; rw [E3.out, if_neg (by omega)] <;> omega
                      clear E1 E2 E3
                      go_wp2
                      go_round
                      case rel => exact ⟨0 + 1, by go_num, by omega, by rw [F1.out] <;> go_num, by rw [F2.out] <;> go_num, by rw [F3.out] <;> go_num⟩
                      case measure => simp [intOf]; omega
                    · have q0 : (x == 0) = true := by rw [beq_iff_eq]; omega
                      have F1 : Hid (runsTo ns (0 + 1) = R + 1) := by show _ = _; rw [E1.out, if_pos (by omega)] <;> omega
                      have F2 : Hid (delsTo ns (0 + 1) = D) := by show _ = _; rw [E2.out, if_neg (by omega)] <;> omega
                      have F3 : Hid (insTo ns ss (0 + 1) = I + (M : Int)) := by show _ = _; rw [E3.out, if_pos (by omega)] <;> omega
                      clear E1 E2 E3
                      go_wp2_with (go_at_call 14; refine C.mono ?_; rintro e w' ⟨rfl, rfl⟩)
                      go_round
                      case rel => exact ⟨0 + 1, by go_num, by omega, by rw [F1.out] <;> go_num, by rw [F2.out] <;> go_num, by rw [F3.out] <;> go_num⟩
                      case measure => simp [intOf]; omega
                · have hkp : 0 < (j : Int) := by omega
                  have hk1 : (j : Int) - 1 = ((j - 1 : Nat) : Int) := by omega
                  have hkq : ((j : Int) == 0) = false := by rw [beq_eq_false_iff_ne]; omega
                  by_cases hx : 0 < x
                  · have q0 : (x == 0) = false := by rw [beq_eq_false_iff_ne]; omega
                    have F1 : Hid (runsTo ns (j + 1) = R) := by show _ = _; rw [E1.out, if_neg (by omega)] <;> omega
                    have F2 : Hid (delsTo ns (j + 1) = D) := by show _ = _; rw [E2.out, if_neg (by omega)] <;> omega
                    have F3 : Hid (insTo ns ss (j + 1) = I) := by show _ = _; rw [E3.out, if_neg (by omega)] <;> omega
                    clear E1 E2 E3
                    go_wp2
                    go_round
                    case rel => exact ⟨j + 1, by go_num, by omega, by rw [F1.out] <;> go_num, by rw [F2.out] <;> go_num, by rw [F3.out] <;> go_num⟩
                    case measure => simp [intOf]; omega
                  · by_cases hy : 0 < y
                    · by_cases hx2 : x < 0
                      · have q0 : (x == 0) = false := by rw [beq_eq_false_iff_ne]; omega
                        have F1 : Hid (runsTo ns (j + 1) = R + 1) := by show _ = _; rw [E1.out, if_pos (by omega)] <;> omega
                        have F2 : Hid (delsTo ns (j + 1) = D - x) := by show _ = _; rw [E2.out, if_pos (by omega)] <;> omega
                        have F3 : Hid (insTo ns ss (j + 1) = I) := by show _ = _; rw [E3.out, if_neg (by omega)] <;> omega
                        clear E1 E2 E3
                        go_wp2
                        go_round
                        case rel => exact ⟨j + 1, by go_num, by omega, by rw [F1.out] <;> go_num, by rw [F2.out] <;> go_num, by rw [F3.out] <;> go_num⟩
                        case measure => simp [intOf]; omega
                      · have q0 : (x == 0) = true := by rw [beq_iff_eq]; omega
                        have F1 : Hid (runsTo ns (j + 1) = R + 1) := by show _ = _; rw [E1.out, if_pos (by omega)] <;> omega
                        have F2 : Hid (delsTo ns (j + 1) = D) := by show _ = _; rw [E2.out, if_neg (by omega)] <;> omega
                        have F3 : Hid (insTo ns ss (j + 1) = I + (M : Int)) := by show _ = _; rw [E3.out, if_pos (by omega)] <;> omega
                        clear E1 E2 E3
                        go_wp2_with (go_at_call 14; refine C.mono ?_; rintro e w' ⟨rfl, rfl⟩)
                        go_round
                        case rel => exact ⟨j + 1, by go_num, by omega, by rw [F1.out] <;> go_num, by rw [F2.out] <;> go_num, by rw [F3.out] <;> go_num⟩
                        case measure => simp [intOf]; omega
                    · by_cases hx2 : x < 0
                      · have q0 : (x == 0) = false := by rw [beq_eq_false_iff_ne]; omega
                        have F1 : Hid (runsTo ns (j + 1) = R) := by show _ = _; rw [E1.out, if_neg (by omega)] <;> omega
                        have F2 : Hid (delsTo ns (j + 1) = D - x) := by show _ = _; rw [E2.out, if_pos (by omega)] <;> omega
                        have F3 : Hid (insTo ns ss (j + 1) = I) := by show _ = _; rw [E3.out, if_neg (by omega)] <;> omega
                        clear E1 E2 E3
                        go_wp2
                        go_round
                        case rel => exact ⟨j + 1, by go_num, by omega, by rw [F1.out] <;> go_num, by rw [F2.out] <;> go_num, by rw [F3.out] <;> go_num⟩
                        case measure => simp [intOf]; omega
                      · have q0 : (x == 0) = true := by rw [beq_iff_eq]; omega
                        have F1 : Hid (runsTo ns (j + 1) = R) := by show _ = _; rw [E1.out, if_neg (by omega)] <;> omega
                        have F2 : Hid (delsTo ns (j + 1) = D) := by show _ = _; rw [E2.out, if_neg (by omega)] <;> omega
                        have F3 : Hid (insTo ns ss (j + 1) = I + (M : Int)) := by show _ = _; rw [E3.out, if_pos (by omega)] <;> omega
                        clear E1 E2 E3
                        go_wp2_with (go_at_call 14; refine C.mono ?_; rintro e w' ⟨rfl, rfl⟩)
                        go_round
                        case rel => exact ⟨j + 1, by go_num, by omega, by rw [F1.out] <;> go_num, by rw [F2.out] <;> go_num, by rw [F3.out] <;> go_num⟩
                        case measure => simp [intOf]; omega
              · have e : k = j := by omega
                subst e
                clear hlt hj
                go_wp2_with fail
                refine (measure_any p' q' c' d' k ns ss _ HN.out HM.out hk HP'.out HQ'.out HSm.out).mono ?_
                rintro e w3 ⟨rfl, b3, hIR⟩
                go_wp2_with fail
                have HSp3 : Hid (Reads w3 p' (ints ns)) := HP'.out.below b3
                have HQ3 : Hid (Reads w3 q' (strs ss)) := HQ'.out.below b3
                refine (newOp_any p' q' c' d' k w2.heap.size _ _ ns ss _ HN.out HM.out hk HSp3.out HQ3.out hIR).mono ?_
                rintro e w4 ⟨rfl, b4, hSp⟩
                have hB4 : Below w1.heap.size w1 w4 := (hB.trans (b3.mono hB.size)).trans (b4.mono (by have := hB.size; have := b3.size; omega))
                have HSp4 : Hid (Spans w4 (w3.heap.size + 1) ns ss k) := hSp
                clear hIR b3 b4 hSp HSp3 HQ3
                go_wp2_with fail
                refine (patches_any (w3.heap.size + 1) k _ _ ns ss _ hk (HSp4.out.below ((Below.refl _ _).alloc (Nat.le_refl _) _)) HSm.out HC.out).mono ?_
                rintro e w5 ⟨v, rfl, hown, b5⟩
                have hB5 : Below w1.heap.size w1 w5 := (hB4.alloc hB4.size _).trans (b5.mono (by have := hB4.size; simp; omega))
                have hKe := kept_of HSm.out HC.out
                obtain ⟨po, cap, rfl, hat⟩ := hown.shape
                clear b5 HSp4 hB4
                generalize (patTo ns ss k).ps = P at *
                generalize hOB : (w4.alloc _).heap.size = OB at *
                clear hOB
                obtain ⟨ok, dels, inss, runs, size⟩ := hKe
                have HAT := show Hid _ from hat
                have HOK : Hid (okB (baseTo ns k) P) := ok
                have HSZ : Hid (∀ p ∈ P, p.ins.size ≤ 1048576) := size
                have HD : Hid (sumD P = delsTo ns k) := dels
                have HI : Hid (sumR P = insTo ns ss k) := inss
                have q0 : ((P.length : Int) != ((runsTo ns k : Nat) : Int)) = false := by rw [runs]; simp
                obtain ⟨rl, d1, d2, i1, i2⟩ := counts_bd HSm.out hk k (Nat.le_refl _)
                have hPl : P.length ≤ 65536 := by omega
                obtain ⟨bb1, bb2⟩ := baseTo_bd HSm.out k (Nat.le_refl _)
                clear hat ok size dels inss runs
                go_wp2_with fail
                go_loopw [19, 20, 21, 22] (fun L D I i wr => ∃ j : Nat, i = .int .i64 j ∧ j ≤ P.length ∧ L = .int .i64 (baseTo ns k - sumD (P.take j) + sumR (P.take j)) ∧ D = .int .i64 (sumD (P.take j)) ∧ I = .int .i64 (sumR (P.take j)) ∧ Hid (Owns wr OB (.slice po P.length cap) P) ∧ Below w1.heap.size w1 wr) (fun _ _ _ i _ => P.length - (intOf i).toNat)
                case atStart => exact ⟨0, rfl, by omega, by simp [sumD, sumR], rfl, rfl, hown, hB5⟩
                case round =>
                  obtain ⟨j, rfl, hj, rfl, rfl, rfl, hO, hBr⟩ := hrel
                  obtain ⟨td0, td1, tr0, tr1⟩ := takes_bd j HOK.out HD.out HI.out d2 i2
                  by_cases hlt : j < P.length
                  · obtain ⟨g, rfl, f0, f1, f2⟩ := HAT.out wr hO.out j hlt
                    have fit := HOK.out j hlt
                    have SD : Hid (sumD (P.take (j + 1)) = sumD (P.take j) + P[j].del) := sumD_take_succ P j hlt
                    have SR : Hid (sumR (P.take (j + 1)) = sumR (P.take j) + rc P[j].ins) := sumR_take_succ P j hlt
                    have psz := HSZ.out P[j] (List.getElem_mem _)
                    rw [ptAt_eq P j hlt] at f0 f1 f2 fit SD SR psz
                    obtain ⟨g1, g2, g3, g4⟩ := fit
                    generalize ptAt P j = pt at *
                    generalize pt.pos = px at *
                    generalize pt.del = py at *
                    generalize pt.ins = ins at *
                    generalize sumD (P.take j) = D at *
                    generalize sumR (P.take j) = I at *
                    generalize hL : baseTo ns k - D + I = L at *
                    have HL : Hid (baseTo ns k - D + I = L) := hL
                    have l1 : L ≤ 288230376151711744 := by omega
                    clear hL
                    have hrc := Lib.runeCount_le ins
                    have C := fun W => count_any ins W psz
                    have HM2 : Hid (rc ins = ((Lib.runeCount ins : Nat) : Int)) := rfl
                    generalize Lib.runeCount ins = M at *
                    go_wp2_with (go_at_call 14; refine (C _).mono ?_; rintro e w' ⟨rfl, rfl⟩)
                    go_roundw
                    case rel => exact ⟨j + 1, by go_num, by omega, by rw [SD.out, SR.out, HM2.out, ← HL.out] <;> go_num, by rw [SD.out] <;> go_num, by rw [SR.out, HM2.out] <;> go_num, hO.out.below ((Below.refl _ _).alloc (Nat.le_refl _) _), hBr.alloc hBr.size _⟩
                    case measure => simp [intOf]; omega
                  · obtain ⟨q1, q2, q3⟩ := final_eqs (j := j) (by omega) HD.out HI.out
                    generalize sumD (P.take j) = D at *
                    generalize sumR (P.take j) = I at *
                    generalize baseTo ns k - D + I = L at *
                    go_wp2
                    go_ret
                    exact ⟨rfl, hBr⟩
      · have h8 : ((n : Int) != (k : Int)) = true := by simp; omega
        clear h7
        go_wp2
        go_ret
        exact ⟨rfl, hB⟩
end Go.Proofs.Qxb6627435a
