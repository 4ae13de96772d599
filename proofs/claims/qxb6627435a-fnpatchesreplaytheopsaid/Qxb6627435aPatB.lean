import Derived.Test.Qxb6627435aPatA
namespace Go.Proofs.Qxb6627435a
open Go.RowKit
set_option linter.unusedVariables false

theorem Spans.at_ {w : World} {g k n : Nat} {ns : List Int} {ss : List ByteArray} (h : Spans w g ns ss n) (hk : k < n) :
    w.cell? ⟨g, k * 3, none⟩ = some (.int .i64 ns[k]!) ∧ w.cell? ⟨g, k * 3 + 1, none⟩ = some (.string ss[k]!) ∧ ∃ z, w.cell? ⟨g, k * 3 + 2, none⟩ = some (.int .i64 z) := h k hk

def PatRel (ns : List Int) (ss : List ByteArray) (n : Nat) (w : World) (v m p i : Value) (wr : World) : Prop :=
  ∃ k : Nat, i = .int .i64 k ∧ k ≤ n ∧ m = .bool (patTo ns ss k).cur.isSome ∧ p = .int .i64 (patTo ns ss k).pos ∧ Owns wr w.heap.size v (patTo ns ss k).ps ∧ Below w.heap.size w wr

theorem own_last {w : World} {B d : Nat} {v : Value} {done : List Pt} {p : Pt} (h : Owns w B v (done ++ [p])) (hd : done.length = d) : ∃ g cap, v = .slice (some ⟨g, 0, none⟩) (d + 1) cap := by
  obtain ⟨g, cap, e⟩ := own_shape h (by simp)
  exact ⟨g, cap, by rw [e]; simp [hd]⟩

theorem runs_le (ns : List Int) : ∀ k, runsTo ns k ≤ k
  | 0 => Nat.le_refl _
  | k + 1 => by have := runs_le ns k; simp only [runsTo]; split <;> omega

theorem sumD_nonneg : ∀ P : List Pt, (∀ p ∈ P, 0 ≤ p.del) → 0 ≤ sumD P
  | [], _ => Int.le_refl _
  | p :: l, h => by
    have := sumD_nonneg l fun q hq => h q (by simp [hq])
    have := h p (by simp)
    simp only [sumD]
    omega
theorem okB_nonneg {B : Int} {P : List Pt} (h : okB B P) : 0 ≤ sumD P := sumD_nonneg P fun p hp => by
  obtain ⟨j, hj, e⟩ := List.getElem_of_mem hp
  rw [← e]
  exact (h j hj).2.2.1
theorem Owns.ne_block {w : World} {B g n cap b : Nat} {P : List Pt} {c : Array Value} (h : Owns w B (.slice (some ⟨g, 0, none⟩) n cap) P) (hb : w.heap[b]? = some (.cells c 43 (0, 0))) : g ≠ b := by
  intro e
  subst e
  rcases h.2 with ⟨h', _⟩ | ⟨g', cap', cur, h', _, hg, _⟩
  · simp at h'
  · simp only [Value.slice.injEq, Option.some.injEq, Addr.mk.injEq, and_true] at h'
    obtain ⟨rfl, _⟩ := h'
    rw [hg] at hb
    simp at hb
theorem Owns.nb {w : World} {B : Nat} {v : Value} {P : List Pt} (h : Owns w B v P) : some w.heap.size ≠ v.ownBlock := fun e => by
  have := (World.ownsRow.lt h w.heap.size e.symm).2
  omega
theorem cells_of {w : World} {b : Nat} {c : Array Value} {t : TypeId} (h : w.heap[b]? = some (.cells c t (0, 0))) (j : Nat) : w.cell? ⟨b, j, none⟩ = c[j]? := cell_of_row w b j c t (0, 0) h

theorem app_blk {wr w1 : World} {o1 o2 : Obj} {row : Option Nat} (hg : ((wr.alloc o1).alloc o2).grownBy w1 row) (hr : some wr.heap.size ≠ row) : w1.heap[wr.heap.size]? = some o1 := by
  rw [hg.block wr.heap.size (by simp; omega) hr, Below.heap_alloc _ _ _ (by simp)]
  exact heap_alloc_new wr _
theorem app_below {w wr w1 : World} {o1 o2 : Obj} {row : Option Nat} (hB : Below w.heap.size w wr) (hg : ((wr.alloc o1).alloc o2).grownBy w1 row) (hr : ∀ k, row = some k → w.heap.size ≤ k) : Below w.heap.size w w1 :=
  ((hB.alloc hB.size _).alloc (by have := hB.size; simp; omega) _).grown hg (by have := hB.size; simp; omega) hr

theorem rel_mk {ns : List Int} {ss : List ByteArray} {n k : Nat} {w wr : World} {v : Value} {st : Pst} (hE : patTo ns ss (k + 1) = st) (hk : k < n) (ho : Owns wr w.heap.size v st.ps) (hb : Below w.heap.size w wr) {m p i : Value}
    (hm : m = .bool st.cur.isSome) (hp : p = .int .i64 st.pos) (hi : i = .int .i64 ((k + 1 : Nat) : Int)) : Hid (PatRel ns ss n w v m p i wr) :=
  ⟨k + 1, hi, hk, by rw [hE]; exact hm, by rw [hE]; exact hp, by rw [hE]; exact ho, hb⟩

set_option maxHeartbeats 2000000 in
set_option maxRecDepth 1000000 in
theorem patches_any (g n : Nat) (B T : Int) (ns : List Int) (ss : List ByteArray) (w : World) (hn : n ≤ 65536) (hSp : Spans w g ns ss n) (hS : Small ns ss n) (hC : CanonTo ns ss n) :
    Calls Try.prog 9 #[.agg #[.slice (some ⟨g, 0, none⟩) n n, .int .i64 B, .int .i64 T]] w fun e w' => ∃ v, e = .returned v ∧ Owns w' w.heap.size v (patTo ns ss n).ps ∧ Below w.heap.size w w' := by
  have HSp : Hid (Spans w g ns ss n) := hSp
  have HS : Hid (Small ns ss n) := hS
  have HC : Hid (CanonTo ns ss n) := hC
  clear hSp hS hC
  go_enter Try.func9, Try.ntmps9
  go_wp2
  go_loopw [3, 4, 5, 12] (fun v m p i wr => Hid (PatRel ns ss n w v m p i wr)) (fun _ _ _ i _ => n - (intOf i).toNat)
  case atStart => exact ⟨0, rfl, by omega, rfl, rfl, World.ownsRow_nil _ _ _ _, (Below.refl _ w).alloc (Nat.le_refl _) _⟩
  case round =>
    obtain ⟨k, rfl, hk, rfl, rfl, hown, hB⟩ := hrel
    by_cases hlt : k < n
    · obtain ⟨h0, h1, z, h2⟩ := (HSp.out.below hB).at_ hlt
      obtain ⟨s1, s2, s3⟩ := HS.out k hlt
      have hI := invA HS.out HC.out k hk
      have hF := HC.out k hlt
      have HE : Hid (patTo ns ss (k + 1) = stepP (patTo ns ss k) ns[k]! ss[k]!) := rfl
      have tb := tgtTo_bd HS.out k hk
      have bb := baseTo_bd HS.out k hk
      generalize ns[k]! = x at *
      generalize ss[k]! = s at *
      generalize ns[k - 1]! = y at *
      generalize patTo ns ss k = st at *
      obtain ⟨done, cur, pos⟩ := st
      have hp0 := hI.pos0
      have hpn := hI.posn
      have hd := hI.dels
      have hsz := hI.size
      have hsm := hI.some_
      have hco := hI.cok
      have hru := hI.runs
      have hok := hI.ok
      have hrl := runs_le ns k
      clear hI
      simp only at hp0 hpn hd hsz hsm
      cases cur with
      | none =>
        simp only [Pst.ps, Option.toList, List.append_nil] at hown
        simp only [Option.isSome]
        simp only [curR] at hpn
        have hpb : pos ≤ 72057594037927936 := by omega
        by_cases hx : 0 < x
        · have HE2 : Hid (patTo ns ss (k + 1) = ⟨done, none, pos + x⟩) := by show _ = _; rw [HE.out]; simp [stepP, hx]
          clear hpn hd hsz hsm hco HE hF hok hru hrl
          go_wp2
          go_roundw
          case rel => exact rel_mk HE2.out hlt (by simpa [Pst.ps] using hown.below ((Below.refl _ _).alloc (Nat.le_refl _) _)) (hB.trans (((Below.refl _ _).alloc (Nat.le_refl _) _).mono hB.size)) rfl rfl (by go_num)
          case measure => simp [intOf]; omega
        · have HE2 : Hid (patTo ns ss (k + 1) = ⟨done, some ⟨pos, -x, s⟩, pos⟩) := by show _ = _; rw [HE.out, ← empty_app s]; simp [stepP, hx]
          obtain ⟨i0, hi, hz0, hz1, hz2⟩ := info_parts Try.info40
          have hown2 : ∀ o1 o2, ((wr.alloc o1).alloc o2).ownsRow w.heap.size 40 3 u3 done.length (flat done) := fun o1 o2 => (hown.below ((Below.refl _ _).alloc (Nat.le_refl _) o1)).below ((Below.refl _ _).alloc (Nat.le_refl _) o2)
          have dbd : done.length ≤ 65536 := by simp [Pst.ps] at hru; omega
          clear hpn hd hsz hsm hco HE hF hok hru hrl
          go_wp2_with (at_builtin; refine wpList_append_own _ rfl (.tmp 36) (.tmp 39) 31 rfl w.heap.size 40 i0 (.agg #[.int .i64 0, .int .i64 0, .string ByteArray.empty]) 3 32 Try.underlying31 hi hz0 hz1 hz2 rfl (by decide) _ _ _ rfl (hown2 _ _) ⟨wr.heap.size + 1, 0, none⟩ 1 1 [.int .i64 pos, .int .i64 0, .string ByteArray.empty] rfl rfl ?c1 ?c2 ?c3 ?c4 ?c5 ?_)
          case c1 => intro j u hj; exact hj
          case c2 => exact ⟨rfl, rfl, rfl⟩
          case c3 => unfold maxLen; omega
          case c4 => omega
          case c5 => have := hB.size; omega
          intro v' w1 ho hg _
          obtain ⟨d, hdl⟩ : ∃ d, done.length = d := ⟨_, rfl⟩
          have ho' : Owns w1 w.heap.size v' (done ++ [⟨pos, 0, ByteArray.empty⟩]) := by
            unfold Owns
            rw [flat_snoc]
            simpa using ho
          have hblk : w1.heap[wr.heap.size]? = some (.cells #[.int .i64 x, .string s, .int .i64 z] 43 (0, 0)) := app_blk hg hown.nb
          have hw1 : Below w.heap.size w w1 := app_below hB hg (fun k e => (World.ownsRow.lt hown k e).1)
          obtain ⟨g', cap, rfl⟩ := own_last ho' hdl
          have hne := ho'.ne_block hblk
          have hgb := ho'.blk
          obtain ⟨l1, l2, l3, l4⟩ := ho'.last hdl
          have lf1 := l4 (d * 3 + 1)
          have lf2 := l4 (d * 3 + 2)
          have m0 : w1.cell? ⟨wr.heap.size, 0, none⟩ = some (.int .i64 x) := cells_of hblk 0
          have m1 : w1.cell? ⟨wr.heap.size, 1, none⟩ = some (.string s) := cells_of hblk 1
          rw [hdl] at dbd
          clear ho hg hblk hown2 hown l4 l1 hi hz0 hz1 hz2 h0 h1 h2
          go_wp2_with fail
          go_region
          go_wp2_with fail
          go_region
          go_wp2
          go_roundw
          case rel => exact rel_mk HE2.out hlt (ho'.upd hdl _ _).drewN.drewN ((hw1.setCell (p := ⟨g', d * 3 + 1, none⟩) hgb.1 _).setCell (p := ⟨g', d * 3 + 2, none⟩) hgb.1 _).drew.drew rfl rfl (by go_num)
          case measure => simp [intOf]; omega
      | some p =>
        by_cases hx : 0 < x
        · have HE2 : Hid (patTo ns ss (k + 1) = ⟨done ++ [p], none, pos + rc p.ins + x⟩) := by show _ = _; rw [HE.out]; simp [stepP, hx]
          simp only [Pst.ps, Option.toList] at hown hsz
          simp only [curR] at hpn
          obtain ⟨d, hdl⟩ : ∃ d, done.length = d := ⟨_, rfl⟩
          obtain ⟨g', cap, rfl⟩ := own_last hown hdl
          obtain ⟨l1, l2, l3, l4⟩ := hown.last hdl
          have lf := l4 (d * 3 + 2)
          have psz := hsz p (by simp)
          have hgb := hown.blk
          have dbd : d + 1 ≤ 65536 := by simp [Pst.ps, hdl] at hru; omega
          have hrc := rc_nonneg p.ins
          have hpb : pos ≤ 72057594037927936 := by omega
          have hcb : pos + ((Lib.runeCount p.ins : Nat) : Int) ≤ 72057594037927936 := by have e : rc p.ins = ((Lib.runeCount p.ins : Nat) : Int) := rfl; omega
          simp only [Option.isSome]
          clear hd hsz hsm hco HE hF hok l4 l1 l2 hdl hru hrl
          go_wp2_with fail
          refine (utf8_any p.ins _ psz).mono ?_
          rintro e w1 ⟨rfl, b1⟩
          have hx1 : w1.cell? ⟨wr.heap.size, 0, none⟩ = some (.int .i64 x) := (b1.cell (by simp)).trans (by simp)
          have hw1 : Below wr.heap.size wr w1 := ((Below.refl _ _).alloc (Nat.le_refl _) _).trans (b1.mono (by simp))
          clear b1
          go_wp2
          go_roundw
          case rel => exact rel_mk HE2.out hlt (by simpa [Pst.ps] using hown.below hw1) (hB.trans (hw1.mono hB.size)) rfl rfl (by go_num)
          case measure => simp [intOf]; omega
        · simp only [Pst.ps, Option.toList] at hown hsz
          simp only [curR] at hpn
          simp only [curD] at hd
          obtain ⟨hk0, hy⟩ := hsm p rfl
          obtain ⟨cp, c1, c2, c3, c4⟩ := hco
          simp only at c1 c2 c3 c4 cp
          have HE2 : Hid (patTo ns ss (k + 1) = ⟨done, some ⟨p.pos, p.del - x, p.ins ++ s⟩, pos⟩) := by show _ = _; rw [HE.out]; simp [stepP, hx]
          obtain ⟨d, hdl⟩ : ∃ d, done.length = d := ⟨_, rfl⟩
          obtain ⟨g', cap, rfl⟩ := own_last hown hdl
          obtain ⟨l1, l2, l3, l4⟩ := hown.last hdl
          have lf1 := l4 (d * 3 + 1)
          have lf2 := l4 (d * 3 + 2)
          have psz := hsz p (by simp)
          have hgb := hown.blk
          have dbd : d + 1 ≤ 65536 := by simp [Pst.ps, hdl] at hru; omega
          have hdb : p.del ≤ 72057594037927936 := by
            have a1 := okB_nonneg hok
            have a2 := base_split ns k
            have a3 := keep_nonneg ns k
            simp only at a1
            omega
          simp only [Option.isSome]
          clear hd hsz hsm HE hF hok l4 l1 hru hrl c1 c2 c4 cp
          have hne : g' ≠ wr.heap.size := by omega
          go_wp2_with fail
          go_region
          go_wp2_with fail
          go_region
          go_wp2
          go_roundw
          case rel => exact rel_mk HE2.out hlt ((hown.upd hdl _ _).below ((Below.refl _ _).alloc (Nat.le_refl _) _)).drewN.drewN ((((hB.setCell (p := ⟨g', d * 3 + 1, none⟩) hgb.1 _).setCell (p := ⟨g', d * 3 + 2, none⟩) hgb.1 _).alloc (by simpa [World.setCell] using hB.size) _).drew.drew) rfl rfl (by go_num)
          case measure => simp [intOf]; omega
    · have e : k = n := by omega
      subst e
      go_wp2
      go_ret
      exact ⟨_, rfl, hown, hB⟩
end Go.Proofs.Qxb6627435a
