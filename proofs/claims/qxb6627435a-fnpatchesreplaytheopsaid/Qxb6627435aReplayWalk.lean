import Derived.Test.Qxb6627435aReplay
namespace Go.Proofs.Qxb6627435a
open Go.RowKit
set_option linter.unusedVariables false

theorem belowN {B : Nat} {a w : World} (h : Below B a w) (n : Nat) : Below B a (w.drewN n) := ⟨h.os, h.tape, h.output, h.size, h.block⟩

set_option maxHeartbeats 4000000 in
set_option maxRecDepth 1000000 in
theorem replay_any (v : Value) (P : List Pt) (OB n : Nat) (ns : List Int) (ss : List ByteArray) (w : World) (hown : Owns w OB v P) (hS : Small ns ss n) (hn : n ≤ 65536) (hK : Kept ns ss n P) (hR : Replays ns ss n P) :
    Calls Try.prog 11 #[v, .int .i64 (baseTo ns n)] w fun e w' => ∃ v', e = .returned (.tuple #[v', .bool true]) ∧ OwnsS w' w.heap.size v' (effTo ns ss n) ∧ Below w.heap.size w w' := by
  obtain ⟨po, cap, rfl, hat⟩ := hown.shape
  have HA : Hid (∀ wr, Below w.heap.size w wr → ∀ j (hj : j < P.length), ∃ g, po = some ⟨g, 0, none⟩ ∧ wr.cell? ⟨g, j * 3, none⟩ = some (.int .i64 P[j].pos) ∧ wr.cell? ⟨g, j * 3 + 1, none⟩ = some (.int .i64 P[j].del) ∧ wr.cell? ⟨g, j * 3 + 2, none⟩ = some (.string P[j].ins)) := fun wr hb => hat wr (hown.below hb)
  have HBD := show Hid _ from rep_bd hS hn hK hR.oks
  have HR := show Hid (Replays ns ss n P) from hR
  have hPl : P.length ≤ 65536 := by have := hK.runs; have := runs_le ns n; omega
  have bb := baseTo_bd hS n (Nat.le_refl _)
  have bb1 : baseTo ns n ≤ 72057594037927936 := by omega
  have bb0 := bb.1
  have HRL : Hid (∀ j, j ≤ P.length → (repAll rep0 (P.take j)).T.length ≤ 131072) := fun j hj => by
    have h := rep_len (P.take j) rep0
    have e : rep0.T.length = 0 := rfl
    have e2 : (P.take j).length ≤ j := List.length_take_le _ _
    omega
  clear hat hown hS hK hR bb
  have HRs := show Hid (∀ j (h : j < P.length), RepOk (baseTo ns n) (repAll rep0 (P.take j)) P[j] (0 < j)) from HR.out.oks
  generalize hBB : baseTo ns n = B at *
  have HBB : Hid (baseTo ns n = B) := hBB
  clear hBB
  obtain ⟨N, hN⟩ : ∃ N, P.length = N := ⟨_, rfl⟩
  have HN : Hid (P.length = N) := hN
  rw [hN] at hPl ⊢
  clear hN
  go_enter Try.func11, Try.ntmps11
  go_wp2
  go_loopw [6, 7, 8, 9] (fun v l c i wr => Hid (RepRel P w v l c i wr)) (fun _ _ _ i _ => N - (intOf i).toNat)
  case atStart => exact ⟨0, rfl, by omega, World.ownsRow_nil _ _ _ _, rfl, rfl, Below.refl _ _⟩
  case round =>
    obtain ⟨j, rfl, hj, hown, rfl, rfl, hB⟩ := hrel
    have hjN : j ≤ N := by have := HN.out; omega
    obtain ⟨⟨c0, c1, l0, l1⟩, hbp⟩ := HBD.out j hj
    have hTl := HRL.out j hj
    by_cases hlt : j < N
    · have kP : j < P.length := by have := HN.out; omega
      obtain ⟨g, rfl, f0, f1, f2⟩ := HA.out wr hB j kP
      obtain ⟨p0, p1, d0, psz⟩ := hbp kP
      obtain ⟨o1, o2, o3, o4, o5, o6, o7⟩ := HRs.out j kP
      have HE : Hid (repAll rep0 (P.take (j + 1)) = rstep (repAll rep0 (P.take j)) P[j]) := rep_take P j kP
      have HKP : Hid (j < P.length) := kP
      rw [ptAt_eq P j kP] at f0 f1 f2 p0 p1 d0 psz o1 o2 o3 o4 o5 o6 o7 HE
      clear hbp kP hj
      generalize repAll rep0 (P.take j) = r at *
      generalize ptAt P j = pt at *
      obtain ⟨px, py, ins⟩ := pt
      obtain ⟨T, L, C⟩ := r
      simp only at f0 f1 f2 p0 p1 d0 psz o1 o2 o3 o4 o5 o6 o7 c0 c1 l0 l1 hTl hown
      have hgl : g < wr.heap.size := cell_lt f0
      have HO7 := show Hid _ from o7
      have hrc := Lib.runeCount_le ins
      have HM : Hid (rc ins = ((Lib.runeCount ins : Nat) : Int)) := rfl
      have hcnt := fun W => count_any ins W psz
      generalize Lib.runeCount ins = M at *
      have hsz := hB.size
      have hW1 : ∀ o, Below w.heap.size w (wr.alloc o) := fun o => hB.alloc hB.size o
      have hO1 : ∀ o, OwnsS (wr.alloc o) w.heap.size u6 T := fun o => hown.below ((Below.refl _ _).alloc (Nat.le_refl _) o)
      have hnb := hown.nb
      by_cases hi : ins.toList = []
      · have hie : ins.toList.isEmpty = true := by rw [hi]; rfl
        have hd : (py == 0) = false := by rw [beq_eq_false_iff_ne]; exact fun e => o2 ⟨e, hi⟩
        have HI : Hid (ins.toList = []) := hi
        clear hi o2 o7
        by_cases hk : 0 < px - L
        · have hkq : (px - L == 0) = false := by rw [beq_eq_false_iff_ne]; omega
          have HF : Hid (repAll rep0 (P.take (j + 1)) = ⟨T ++ [keepSg C (px - L)], px + rc ins, C + (px - L) + py⟩) := by show _ = _; rw [HE.out]; exact rstep_10 hk HI.out
          clear HE o4
          rcases (show 0 < (j : Int) ∨ (j : Int) ≤ 0 by omega) with hj0 | hj0
          all_goals
            go_wp2_with fail
            refine (put_keep u6 T _ C (px - L) _ w.heap.size (hW1 _).size (hO1 _) (by omega) (by exact HO7.out hk)).mono ?_
            rintro e w1 ⟨v1, rfl, ho1, hg1⟩
            have hb1 := pvar_kept hg1 hnb
            have hB1 : Below w.heap.size w w1 := (hW1 _).grown hg1 (hW1 _).size (fun k e => (World.ownsRow.lt hown k e).1)
            have m0 : w1.cell? ⟨wr.heap.size, 0, none⟩ = some (.int .i64 px) := cells_of hb1 0
            have m1 : w1.cell? ⟨wr.heap.size, 1, none⟩ = some (.int .i64 py) := cells_of hb1 1
            have m2 : w1.cell? ⟨wr.heap.size, 2, none⟩ = some (.string ins) := cells_of hb1 2
            clear hg1 hO1 hnb f0 f1 f2
            go_wp2_with fail
            go_quiet ((go_at_call 14; exact Calls.quiet_of_same (hcnt _)))
            go_wp2
            go_roundw
            case rel => exact rep_mk HF.out HKP.out ho1 (belowN hB1 _) (by rw [HM.out]) rfl (by go_num)
            case measure => simp [intOf]; omega
        · have hj0 : ¬ 0 < j := fun h => o4 h (by omega)
          have HF : Hid (repAll rep0 (P.take (j + 1)) = ⟨T, px + rc ins, C + py⟩) := by show _ = _; rw [HE.out]; exact rstep_00 hk HI.out
          clear HE o4
          have hW2 := hW1
          go_wp2_with fail
          go_quiet ((go_at_call 14; exact Calls.quiet_of_same (hcnt _)))
          go_wp2
          go_roundw
          case rel => exact rep_mk HF.out HKP.out (hO1 _) (belowN (hW1 _) _) (by rw [HM.out]) rfl (by go_num)
          case measure => simp [intOf]; omega
      · have hie : ins.toList.isEmpty = false := by cases h : ins.toList <;> simp_all
        have HI : Hid (¬ ins.toList = []) := hi
        clear o7 o2
        cases hd : (py == 0)
        · clear hi
          by_cases hk : 0 < px - L
          · have hkq : (px - L == 0) = false := by rw [beq_eq_false_iff_ne]; omega
            have HF : Hid (repAll rep0 (P.take (j + 1)) = ⟨T ++ [keepSg C (px - L)] ++ [insSg ins], px + rc ins, C + (px - L) + py⟩) := by show _ = _; rw [HE.out]; exact rstep_11 hk HI.out
            clear HE o4
            rcases (show 0 < (j : Int) ∨ (j : Int) ≤ 0 by omega) with hj0 | hj0
            all_goals
              go_wp2_with fail
              refine (put_keep u6 T _ C (px - L) _ w.heap.size (hW1 _).size (hO1 _) (by omega) (by exact HO7.out hk)).mono ?_
              rintro e w1 ⟨v1, rfl, ho1, hg1⟩
              have hb1 := pvar_kept hg1 hnb
              have hB1 : Below w.heap.size w w1 := (hW1 _).grown hg1 (hW1 _).size (fun k e => (World.ownsRow.lt hown k e).1)
              have m0 : w1.cell? ⟨wr.heap.size, 0, none⟩ = some (.int .i64 px) := cells_of hb1 0
              have m1 : w1.cell? ⟨wr.heap.size, 1, none⟩ = some (.int .i64 py) := cells_of hb1 1
              have m2 : w1.cell? ⟨wr.heap.size, 2, none⟩ = some (.string ins) := cells_of hb1 2
              clear hg1 hO1 hnb f0 f1 f2
              have hlen1 : (T ++ [keepSg C (px - L)]).length ≤ 1048576 := by simp; omega
              go_wp2_with fail
              refine (put_ins v1 _ ins 0 0 _ w.heap.size hB1.size ho1 (by exact hlen1)).mono ?_
              rintro e w2 ⟨v2, rfl, ho2, hg2⟩
              have hb2 := pvar_kept2 hb1 hg2 (ho1.ne_blk hb1)
              have hB2 : Below w.heap.size w w2 := hB1.grown hg2 hB1.size (fun k e => (World.ownsRow.lt ho1 k e).1)
              have n0 : w2.cell? ⟨wr.heap.size, 0, none⟩ = some (.int .i64 px) := cells_of hb2 0
              have n2 : w2.cell? ⟨wr.heap.size, 2, none⟩ = some (.string ins) := cells_of hb2 2
              clear hg2 m0 m1 m2 hb1
              go_wp2_with fail
              go_quiet ((go_at_call 14; exact Calls.quiet_of_same (hcnt _)))
              go_wp2
              go_roundw
              case rel => exact rep_mk HF.out HKP.out ho2 (belowN hB2 _) (by rw [HM.out]) rfl (by go_num)
              case measure => simp [intOf]; omega
          · have hj0 : ¬ 0 < j := fun h => o4 h (by omega)
            have HF : Hid (repAll rep0 (P.take (j + 1)) = ⟨T ++ [insSg ins], px + rc ins, C + py⟩) := by show _ = _; rw [HE.out]; exact rstep_01 hk HI.out
            clear HE o4
            go_wp2_with fail
            refine (put_ins u6 T ins 0 0 _ w.heap.size (hW1 _).size (hO1 _) (by omega)).mono ?_
            rintro e w1 ⟨v1, rfl, ho1, hg1⟩
            have hb1 := pvar_kept hg1 hnb
            have hB1 : Below w.heap.size w w1 := (hW1 _).grown hg1 (hW1 _).size (fun k e => (World.ownsRow.lt hown k e).1)
            have m0 : w1.cell? ⟨wr.heap.size, 0, none⟩ = some (.int .i64 px) := cells_of hb1 0
            have m1 : w1.cell? ⟨wr.heap.size, 1, none⟩ = some (.int .i64 py) := cells_of hb1 1
            have m2 : w1.cell? ⟨wr.heap.size, 2, none⟩ = some (.string ins) := cells_of hb1 2
            clear hg1 hO1 hnb f0 f1 f2
            go_wp2_with fail
            go_quiet ((go_at_call 14; exact Calls.quiet_of_same (hcnt _)))
            go_wp2
            go_roundw
            case rel => exact rep_mk HF.out HKP.out ho1 (belowN hB1 _) (by rw [HM.out]) rfl (by go_num)
            case measure => simp [intOf]; omega
        · clear hi
          by_cases hk : 0 < px - L
          · have hkq : (px - L == 0) = false := by rw [beq_eq_false_iff_ne]; omega
            have HF : Hid (repAll rep0 (P.take (j + 1)) = ⟨T ++ [keepSg C (px - L)] ++ [insSg ins], px + rc ins, C + (px - L) + py⟩) := by show _ = _; rw [HE.out]; exact rstep_11 hk HI.out
            clear HE o4
            rcases (show 0 < (j : Int) ∨ (j : Int) ≤ 0 by omega) with hj0 | hj0
            all_goals
              go_wp2_with fail
              refine (put_keep u6 T _ C (px - L) _ w.heap.size (hW1 _).size (hO1 _) (by omega) (by exact HO7.out hk)).mono ?_
              rintro e w1 ⟨v1, rfl, ho1, hg1⟩
              have hb1 := pvar_kept hg1 hnb
              have hB1 : Below w.heap.size w w1 := (hW1 _).grown hg1 (hW1 _).size (fun k e => (World.ownsRow.lt hown k e).1)
              have m0 : w1.cell? ⟨wr.heap.size, 0, none⟩ = some (.int .i64 px) := cells_of hb1 0
              have m1 : w1.cell? ⟨wr.heap.size, 1, none⟩ = some (.int .i64 py) := cells_of hb1 1
              have m2 : w1.cell? ⟨wr.heap.size, 2, none⟩ = some (.string ins) := cells_of hb1 2
              clear hg1 hO1 hnb f0 f1 f2
              have hlen1 : (T ++ [keepSg C (px - L)]).length ≤ 1048576 := by simp; omega
              go_wp2_with fail
              refine (put_ins v1 _ ins 0 0 _ w.heap.size hB1.size ho1 (by exact hlen1)).mono ?_
              rintro e w2 ⟨v2, rfl, ho2, hg2⟩
              have hb2 := pvar_kept2 hb1 hg2 (ho1.ne_blk hb1)
              have hB2 : Below w.heap.size w w2 := hB1.grown hg2 hB1.size (fun k e => (World.ownsRow.lt ho1 k e).1)
              have n0 : w2.cell? ⟨wr.heap.size, 0, none⟩ = some (.int .i64 px) := cells_of hb2 0
              have n2 : w2.cell? ⟨wr.heap.size, 2, none⟩ = some (.string ins) := cells_of hb2 2
              clear hg2 m0 m1 m2 hb1
              go_wp2_with fail
              go_quiet ((go_at_call 14; exact Calls.quiet_of_same (hcnt _)))
              go_wp2
              go_roundw
              case rel => exact rep_mk HF.out HKP.out ho2 (belowN hB2 _) (by rw [HM.out]) rfl (by go_num)
              case measure => simp [intOf]; omega
          · have hj0 : ¬ 0 < j := fun h => o4 h (by omega)
            have HF : Hid (repAll rep0 (P.take (j + 1)) = ⟨T ++ [insSg ins], px + rc ins, C + py⟩) := by show _ = _; rw [HE.out]; exact rstep_01 hk HI.out
            clear HE o4
            go_wp2_with fail
            refine (put_ins u6 T ins 0 0 _ w.heap.size (hW1 _).size (hO1 _) (by omega)).mono ?_
            rintro e w1 ⟨v1, rfl, ho1, hg1⟩
            have hb1 := pvar_kept hg1 hnb
            have hB1 : Below w.heap.size w w1 := (hW1 _).grown hg1 (hW1 _).size (fun k e => (World.ownsRow.lt hown k e).1)
            have m0 : w1.cell? ⟨wr.heap.size, 0, none⟩ = some (.int .i64 px) := cells_of hb1 0
            have m1 : w1.cell? ⟨wr.heap.size, 1, none⟩ = some (.int .i64 py) := cells_of hb1 1
            have m2 : w1.cell? ⟨wr.heap.size, 2, none⟩ = some (.string ins) := cells_of hb1 2
            clear hg1 hO1 hnb f0 f1 f2
            go_wp2_with fail
            go_quiet ((go_at_call 14; exact Calls.quiet_of_same (hcnt _)))
            go_wp2
            go_roundw
            case rel => exact rep_mk HF.out HKP.out ho1 (belowN hB1 _) (by rw [HM.out]) rfl (by go_num)
            case measure => simp [intOf]; omega
    · have hPP : P.take j = P := List.take_of_length_le (by have := HN.out; omega)
      have HSh : Hid ((repAll rep0 (P.take j)).c < B → NoJoin (repAll rep0 (P.take j)).T (keepSg (repAll rep0 (P.take j)).c (B - (repAll rep0 (P.take j)).c)) ∧ (repAll rep0 (P.take j)).T ++ [keepSg (repAll rep0 (P.take j)).c (B - (repAll rep0 (P.take j)).c)] = effTo ns ss n) := by rw [hPP, ← HBB.out]; exact HR.out.short
      have HFu : Hid (¬ (repAll rep0 (P.take j)).c < B → (repAll rep0 (P.take j)).T = effTo ns ss n) := by rw [hPP, ← HBB.out]; exact HR.out.full
      clear hPP hbp
      generalize repAll rep0 (P.take j) = r at *
      obtain ⟨T, L, C⟩ := r
      simp only at c0 c1 l0 l1 hTl hown
      by_cases hc : C < B
      · obtain ⟨nj, ef⟩ := HSh.out hc
        have NJ : Hid (NoJoin T (keepSg C (B - C))) := nj
        have EF : Hid (T ++ [keepSg C (B - C)] = effTo ns ss n) := ef
        clear nj ef HSh HFu
        go_wp2_with fail
        refine (put_keep u6 T _ C (B - C) _ w.heap.size hB.size hown (by omega) (by exact NJ.out)).mono ?_
        rintro e w1 ⟨v1, rfl, ho1, hg1⟩
        have hB1 : Below w.heap.size w w1 := hB.grown hg1 hB.size (fun k e => (World.ownsRow.lt hown k e).1)
        clear hg1
        go_wp2
        go_ret2
        exact ⟨_, rfl, by rw [← EF.out]; exact ho1, hB1⟩
      · have EF : Hid (T = effTo ns ss n) := HFu.out hc
        clear HSh HFu
        go_wp2
        go_ret2
        exact ⟨_, rfl, by rw [← EF.out]; exact hown, hB⟩
end Go.Proofs.Qxb6627435a
