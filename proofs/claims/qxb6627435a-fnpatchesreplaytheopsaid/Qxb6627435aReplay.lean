import Derived.Test.Qxb6627435aSame
namespace Go.Proofs.Qxb6627435a
open Go.RowKit
set_option linter.unusedVariables false

theorem rep_len : ∀ (P : List Pt) (r : Rst), (repAll r P).T.length ≤ r.T.length + 2 * P.length
  | [], r => by simp [repAll]
  | p :: l, r => by
    have h := rep_len l (rstep r p)
    have h2 : (rstep r p).T.length ≤ r.T.length + 2 := by
      simp only [rstep]
      repeat' split
      all_goals (try simp only [List.length_append, List.length_cons, List.length_nil])
      all_goals omega
    simp only [repAll, List.length_cons]
    omega
theorem rep_take (P : List Pt) (j : Nat) (h : j < P.length) : repAll rep0 (P.take (j + 1)) = rstep (repAll rep0 (P.take j)) P[j] := by
  rw [List.take_succ_eq_append_getElem h, repAll_snoc]

theorem rstep_11 {r : Rst} {p : Pt} (h : 0 < p.pos - r.len) (hi : ¬ p.ins.toList = []) : rstep r p = ⟨r.T ++ [keepSg r.c (p.pos - r.len)] ++ [insSg p.ins], p.pos + rc p.ins, r.c + (p.pos - r.len) + p.del⟩ := by simp only [rstep, if_pos h, if_neg hi]
theorem rstep_10 {r : Rst} {p : Pt} (h : 0 < p.pos - r.len) (hi : p.ins.toList = []) : rstep r p = ⟨r.T ++ [keepSg r.c (p.pos - r.len)], p.pos + rc p.ins, r.c + (p.pos - r.len) + p.del⟩ := by simp only [rstep, if_pos h, if_pos hi]
theorem rstep_01 {r : Rst} {p : Pt} (h : ¬ 0 < p.pos - r.len) (hi : ¬ p.ins.toList = []) : rstep r p = ⟨r.T ++ [insSg p.ins], p.pos + rc p.ins, r.c + p.del⟩ := by simp only [rstep, if_neg h, if_neg hi]
theorem rstep_00 {r : Rst} {p : Pt} (h : ¬ 0 < p.pos - r.len) (hi : p.ins.toList = []) : rstep r p = ⟨r.T, p.pos + rc p.ins, r.c + p.del⟩ := by simp only [rstep, if_neg h, if_pos hi]

theorem OwnsS.ne_blk {w : World} {B b : Nat} {v : Value} {T : List Sg} {c : Array Value} (h : OwnsS w B v T) (hb : w.heap[b]? = some (.cells c 40 (0, 0))) : some b ≠ v.ownBlock := by
  rcases h.2 with ⟨h', _⟩ | ⟨g', cap', cur, h', _, hg, _⟩
  · rw [h']; simp [Value.ownBlock]
  · rw [h']
    simp only [Value.ownBlock, ne_eq, Option.some.injEq]
    intro e
    subst e
    rw [hg] at hb
    simp at hb
theorem OwnsS.nb {w : World} {B : Nat} {v : Value} {T : List Sg} (h : OwnsS w B v T) : some w.heap.size ≠ v.ownBlock := fun e => by
  have := (World.ownsRow.lt h w.heap.size e.symm).2
  omega
theorem pvar_kept {wr w1 : World} {row : Option Nat} {o : Obj} (hg : (wr.alloc o).grownBy w1 row) (hr : some wr.heap.size ≠ row) : w1.heap[wr.heap.size]? = some o := by
  rw [hg.block wr.heap.size (by simp) hr]
  exact heap_alloc_new wr _
theorem pvar_kept2 {w1 w2 : World} {row : Option Nat} {o : Obj} {b : Nat} (h : w1.heap[b]? = some o) (hg : w1.grownBy w2 row) (hr : some b ≠ row) : w2.heap[b]? = some o := by
  have hb : b < w1.heap.size := by
    by_cases hb : b < w1.heap.size
    · exact hb
    · rw [Array.getElem?_eq_none (by omega)] at h; simp at h
  rw [hg.block b hb hr]
  exact h

def RepRel (P : List Pt) (w : World) (v l c i : Value) (wr : World) : Prop :=
  ∃ j : Nat, i = .int .i64 j ∧ j ≤ P.length ∧ OwnsS wr w.heap.size v (repAll rep0 (P.take j)).T ∧ l = .int .i64 (repAll rep0 (P.take j)).len ∧ c = .int .i64 (repAll rep0 (P.take j)).c ∧ Below w.heap.size w wr
theorem rep_mk {P : List Pt} {w wr : World} {v l c i : Value} {j : Nat} {r : Rst} (hr : repAll rep0 (P.take (j + 1)) = r) (hj : j < P.length) (ho : OwnsS wr w.heap.size v r.T) (hB : Below w.heap.size w wr) (hl : l = .int .i64 r.len) (hc : c = .int .i64 r.c) (hi : i = .int .i64 ((j + 1 : Nat) : Int)) : Hid (RepRel P w v l c i wr) :=
  ⟨j + 1, hi, hj, by rw [hr]; exact ho, by rw [hr]; exact hl, by rw [hr]; exact hc, hB⟩

/-- Bounds on the state of the replay. -/
structure RBd (B : Int) (r : Rst) : Prop where
  c0 : 0 ≤ r.c
  c1 : r.c ≤ B
  l0 : 0 ≤ r.len
  l1 : r.len ≤ 288230376151711744
theorem rep_bd {ns : List Int} {ss : List ByteArray} {n : Nat} {P : List Pt} (hS : Small ns ss n) (hn : n ≤ 65536) (hK : Kept ns ss n P) (hR : repOks (baseTo ns n) P) : ∀ j, j ≤ P.length → RBd (baseTo ns n) (repAll rep0 (P.take j)) ∧ ∀ h : j < P.length, 0 ≤ P[j].pos ∧ P[j].pos ≤ 144115188075855872 ∧ 0 ≤ P[j].del ∧ P[j].ins.size ≤ 1048576 := by
  have bb := baseTo_bd hS n (Nat.le_refl _)
  have cb := counts_bd hS hn n (Nat.le_refl _)
  have hp : ∀ j (h : j < P.length), 0 ≤ P[j].pos ∧ P[j].pos ≤ 144115188075855872 ∧ 0 ≤ P[j].del ∧ P[j].ins.size ≤ 1048576 := fun j h => by
    obtain ⟨f1, f2, f3, f4⟩ := hK.ok j h
    have t1 := sumD_take P j (okB_all hK.ok)
    have t2 := sumR_take P j
    have e1 := hK.dels
    have e2 := hK.inss
    exact ⟨f1, by omega, f3, hK.size _ (List.getElem_mem _)⟩
  intro j
  induction j with
  | zero => exact fun _ => ⟨⟨Int.le_refl _, bb.1, Int.le_refl _, by simp [repAll, rep0]⟩, fun h => by have := hp 0 h; omega⟩
  | succ j ih =>
    intro hj
    obtain ⟨⟨b1, b2, b3, b4⟩, _⟩ := ih (by omega)
    have hlt : j < P.length := by omega
    obtain ⟨p1, p2, p3, p4⟩ := hp j hlt
    obtain ⟨o1, o2, o3, o4, o5, o6, o7⟩ := hR j hlt
    have hrc := Lib.runeCount_le P[j].ins
    have hrc2 : rc P[j].ins = ((Lib.runeCount P[j].ins : Nat) : Int) := rfl
    refine ⟨?_, fun h => by have := hp (j + 1) h; omega⟩
    rw [rep_take P j hlt]
    have hc := rstep_c o3
    have hl : (rstep (repAll rep0 (P.take j)) P[j]).len = P[j].pos + rc P[j].ins := rfl
    exact ⟨by rw [hc]; omega, by rw [hc]; omega, by rw [hl]; omega, by rw [hl]; omega⟩
end Go.Proofs.Qxb6627435a
