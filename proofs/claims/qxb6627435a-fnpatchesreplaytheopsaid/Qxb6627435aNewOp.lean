import Derived.Test.Qxb6627435aMeasure
import Derived.BigRegion
namespace Go.Proofs.Qxb6627435a
open Go.RowKit
set_option linter.unusedVariables false

/-- The first k spans lie in block g, three cells each. -/
def Spans (w : World) (g : Nat) (ns : List Int) (ss : List ByteArray) (k : Nat) : Prop :=
  ∀ j, j < k → w.cell? ⟨g, j * 3, none⟩ = some (.int .i64 ns[j]!) ∧ w.cell? ⟨g, j * 3 + 1, none⟩ = some (.string ss[j]!) ∧ ∃ z, w.cell? ⟨g, j * 3 + 2, none⟩ = some (.int .i64 z)
/-- The row of n places lies in block g. -/
def Has (w : World) (g n : Nat) : Prop := ∀ j, j < n → (w.cell? ⟨g, j, none⟩).isSome = true

theorem cell_set (w : World) (a : Addr) (v : Value) (h : (w.cell? a).isSome = true) : (w.setCell a v).cell? a = some v := World.cell?_setCell_same' w a v h
theorem cell_ne (w : World) (g i j : Nat) (v : Value) (h : j ≠ i) : (w.setCell ⟨g, i, none⟩ v).cell? ⟨g, j, none⟩ = w.cell? ⟨g, j, none⟩ :=
  World.cell?_setCell_other _ _ _ _ (fun e => h (by injection e; omega))
theorem cell_blk (w : World) (g g' i j : Nat) (v : Value) (h : g' ≠ g) : (w.setCell ⟨g, i, none⟩ v).cell? ⟨g', j, none⟩ = w.cell? ⟨g', j, none⟩ :=
  World.cell?_setCell_other _ _ _ _ (fun e => h (by injection e; omega))
theorem Has.set {w : World} {g n i : Nat} (h : Has w g n) (v : Value) : Has (w.setCell ⟨g, i, none⟩ v) g n := fun j hj => by
  by_cases e : j = i
  · subst e; rw [cell_set _ _ _ (h j hj)]; rfl
  · rw [cell_ne _ _ _ _ _ e]; exact h j hj
/-- Three cells written, one after another. -/
def set3 (w : World) (g o : Nat) (a b c : Value) : World := ((w.setCell ⟨g, o, none⟩ a).setCell ⟨g, o + 1, none⟩ b).setCell ⟨g, o + 2, none⟩ c
theorem set3_other (w : World) (g o j : Nat) (a b c : Value) (h : j < o ∨ o + 3 ≤ j) : (set3 w g o a b c).cell? ⟨g, j, none⟩ = w.cell? ⟨g, j, none⟩ := by
  rw [set3, cell_ne _ _ _ _ _ (by omega), cell_ne _ _ _ _ _ (by omega), cell_ne _ _ _ _ _ (by omega)]
theorem set3_blk (w : World) (g g' o j : Nat) (a b c : Value) (h : g' ≠ g) : (set3 w g o a b c).cell? ⟨g', j, none⟩ = w.cell? ⟨g', j, none⟩ := by
  rw [set3, cell_blk _ _ _ _ _ _ h, cell_blk _ _ _ _ _ _ h, cell_blk _ _ _ _ _ _ h]
theorem set3_frozen (w : World) (g o : Nat) (a b c : Value) (x : Addr) : (set3 w g o a b c).frozen? x = w.frozen? x := by
  rw [set3, World.frozen?_setCell, World.frozen?_setCell, World.frozen?_setCell]
theorem set3_0 {w : World} {g o n : Nat} (h : Has w g n) (a b c : Value) (ho : o + 2 < n) : (set3 w g o a b c).cell? ⟨g, o, none⟩ = some a := by
  rw [set3, cell_ne _ _ _ _ _ (by omega), cell_ne _ _ _ _ _ (by omega), cell_set _ _ _ (h o (by omega))]
theorem set3_1 {w : World} {g o n : Nat} (h : Has w g n) (a b c : Value) (ho : o + 2 < n) : (set3 w g o a b c).cell? ⟨g, o + 1, none⟩ = some b := by
  rw [set3, cell_ne _ _ _ _ _ (by omega), cell_set _ _ _ (h.set _ (o + 1) (by omega))]
theorem set3_2 {w : World} {g o n : Nat} (h : Has w g n) (a b c : Value) (ho : o + 2 < n) : (set3 w g o a b c).cell? ⟨g, o + 2, none⟩ = some c := by
  rw [set3, cell_set _ _ _ ((h.set _).set _ (o + 2) (by omega))]
theorem set3_has {w : World} {g o n : Nat} (h : Has w g n) (a b c : Value) : Has (set3 w g o a b c) g n := ((h.set _).set _).set _
theorem set3_free {w : World} {g o n : Nat} (h : FreeRow w g n) (a b c : Value) : FreeRow (set3 w g o a b c) g n := fun j hj => by rw [set3_frozen]; exact h j hj
theorem set3_below {B : Nat} {w0 w : World} (h : Below B w0 w) {g o : Nat} (hg : B ≤ g) (a b c : Value) : Below B w0 (set3 w g o a b c) := ((h.setCell (p := ⟨g, o, none⟩) hg _).setCell (p := ⟨g, o + 1, none⟩) hg _).setCell (p := ⟨g, o + 2, none⟩) hg _
theorem Spans.step {w : World} {g n k : Nat} {ns : List Int} {ss : List ByteArray} {x : Int} {s : ByteArray} {z : Int} (h : Spans w g ns ss k) (hH : Has w g (n * 3)) (hk : k < n) (hx : ns[k]! = x) (hs : ss[k]! = s) :
    Spans (set3 w g (k * 3) (.int .i64 x) (.string s) (.int .i64 z)) g ns ss (k + 1) := fun j hj => by
  by_cases e : j = k
  · subst e
    rw [set3_0 hH _ _ _ (by omega), set3_1 hH _ _ _ (by omega), set3_2 hH _ _ _ (by omega), hx, hs]
    exact ⟨rfl, rfl, z, rfl⟩
  · rw [set3_other _ _ _ _ _ _ _ (by omega), set3_other _ _ _ _ _ _ _ (by omega), set3_other _ _ _ _ _ _ _ (by omega)]
    exact h j (by omega)
theorem Spans.blk {w : World} {g g' o k : Nat} {ns : List Int} {ss : List ByteArray} (h : Spans w g ns ss k) (hg : g ≠ g') (a b c : Value) : Spans (set3 w g' o a b c) g ns ss k := fun j hj => by
  rw [set3_blk _ _ _ _ _ _ _ _ hg, set3_blk _ _ _ _ _ _ _ _ hg, set3_blk _ _ _ _ _ _ _ _ hg]
  exact h j hj
theorem Spans.below {w w' : World} {g k : Nat} {ns : List Int} {ss : List ByteArray} (h : Spans w g ns ss k) (hb : Below w.heap.size w w') : Spans w' g ns ss k := fun j hj => by
  obtain ⟨h1, h2, z, h3⟩ := h j hj
  exact ⟨(hb.cell (cell_lt h1)).trans h1, (hb.cell (cell_lt h2)).trans h2, z, (hb.cell (cell_lt h3)).trans h3⟩

theorem has_made43 (w : World) (n : Nat) : Has (w.alloc (.cells (made43 n) 43)) w.heap.size (n * 3) := fun j hj => by
  have h : j < (made43 n).size := by rw [made43_size]; exact hj
  simp [h]

set_option maxHeartbeats 1000000 in
set_option maxRecDepth 1000000 in
theorem newOp_any (p q : Option Addr) (cn cm n g : Nat) (B T : Int) (ns : List Int) (ss : List ByteArray) (w : World) (hN : ns.length = n) (hM : ss.length = n) (hn : n ≤ 65536) (hp : Reads w p (ints ns)) (hq : Reads w q (strs ss)) (hr : IntRow w g n) :
    Calls Try.prog 8 #[.slice p n cn, .slice q n cm, .slice (some ⟨g, 0, none⟩) n n, .int .i64 B, .int .i64 T] w fun e w' => e = .returned (.agg #[.slice (some ⟨w.heap.size + 1, 0, none⟩) n n, .int .i64 B, .int .i64 T]) ∧ Below w.heap.size w w' ∧ Spans w' (w.heap.size + 1) ns ss n := by
  have HP : Hid (Reads w p (ints ns)) := hp
  have HQ : Hid (Reads w q (strs ss)) := hq
  have HR : Hid (IntRow w g n) := hr
  have HN : Hid (ns.length = n) := hN
  have HM : Hid (ss.length = n) := hM
  clear hp hq hN hM hr
  have hmk := run_mk43 n (by omega)
  go_enter Try.func8, Try.ntmps8
  go_wp2
  have hB0 : Below w.heap.size w ((w.alloc (Obj.cells #[Value.slice none 0 0, Value.int IntKind.i64 0, Value.int IntKind.i64 0] 29)).alloc (Obj.cells (made43 n) 43)) := ((Below.refl _ w).alloc (Nat.le_refl _) _).alloc (by simp) _
  have hH : Hid (Has ((w.alloc (Obj.cells #[Value.slice none 0 0, Value.int IntKind.i64 0, Value.int IntKind.i64 0] 29)).alloc (Obj.cells (made43 n) 43)) (w.heap.size + 1) (n * 3)) := by
    have h := has_made43 (w.alloc (Obj.cells #[Value.slice none 0 0, Value.int IntKind.i64 0, Value.int IntKind.i64 0] 29)) n
    simp only [World.size_alloc] at h
    exact h
  have hF : Hid (FreeRow ((w.alloc (Obj.cells #[Value.slice none 0 0, Value.int IntKind.i64 0, Value.int IntKind.i64 0] 29)).alloc (Obj.cells (made43 n) 43)) (w.heap.size + 1) (n * 3)) := by
    have h := FreeRow.made (w.alloc (Obj.cells #[Value.slice none 0 0, Value.int IntKind.i64 0, Value.int IntKind.i64 0] 29)) (made43 n) 43 (n * 3)
    simp only [World.size_alloc] at h
    exact h
  have r0 : ((w.alloc (Obj.cells #[Value.slice none 0 0, Value.int IntKind.i64 0, Value.int IntKind.i64 0] 29)).alloc (Obj.cells (made43 n) 43)).cell? ⟨w.heap.size, 0, none⟩ = some (.slice none 0 0) := by simp
  have r1 : ((w.alloc (Obj.cells #[Value.slice none 0 0, Value.int IntKind.i64 0, Value.int IntKind.i64 0] 29)).alloc (Obj.cells (made43 n) 43)).cell? ⟨w.heap.size, 1, none⟩ = some (.int .i64 0) := by simp
  have r2 : ((w.alloc (Obj.cells #[Value.slice none 0 0, Value.int IntKind.i64 0, Value.int IntKind.i64 0] 29)).alloc (Obj.cells (made43 n) 43)).cell? ⟨w.heap.size, 2, none⟩ = some (.int .i64 0) := by simp
  have rf : ∀ j, ((w.alloc (Obj.cells #[Value.slice none 0 0, Value.int IntKind.i64 0, Value.int IntKind.i64 0] 29)).alloc (Obj.cells (made43 n) 43)).frozen? ⟨w.heap.size, j, none⟩ = false := fun j => by simp
  clear hmk
  generalize (w.alloc (Obj.cells #[Value.slice none 0 0, Value.int IntKind.i64 0, Value.int IntKind.i64 0] 29)).alloc (Obj.cells (made43 n) 43) = w0 at *
  go_loopw [12] (fun i wr => ∃ k : Nat, i = .int .i64 k ∧ k ≤ n ∧ Hid (Has wr (w.heap.size + 1) (n * 3)) ∧ Hid (FreeRow wr (w.heap.size + 1) (n * 3)) ∧ Hid (Spans wr (w.heap.size + 1) ns ss k) ∧ Below (w.heap.size + 1) w0 wr) (fun i _ => n - (intOf i).toNat)
  case atStart => exact ⟨0, rfl, by omega, hH, hF, fun j h => by omega, Below.refl _ _⟩
  case round =>
    obtain ⟨k, rfl, hk, hH, hF, hSp, hB1⟩ := hrel
    have hB := hB0.trans (hB1.mono (Nat.le_succ _))
    by_cases hlt : k < n
    · have kN : k < ns.length := by have := HN.out; omega
      have kM : k < ss.length := by have := HM.out; omega
      obtain ⟨b, off, rfl, hc⟩ := (Reads.below HP.out hB).int k kN
      obtain ⟨b', off', rfl, hd⟩ := (Reads.below HQ.out hB).str k kM
      obtain ⟨z, hz⟩ := (IntRow.below HR.out hB) k hlt
      obtain ⟨c0, e0⟩ := Option.isSome_iff_exists.1 (hH.out (k * 3) (by omega))
      obtain ⟨c1, e1⟩ := Option.isSome_iff_exists.1 (hH.out (k * 3 + 1) (by omega))
      obtain ⟨c2, e2⟩ := Option.isSome_iff_exists.1 (hH.out (k * 3 + 2) (by omega))
      have f0 := hF.out (k * 3) (by omega)
      have f1 := hF.out (k * 3 + 1) (by omega)
      have f2 := hF.out (k * 3 + 2) (by omega)
      rw [← getElem!_pos ns k kN] at hc
      rw [← getElem!_pos ss k kM] at hd
      generalize hx : ns[k]! = x at *
      generalize hs : ss[k]! = s at *
      have HX : Hid (ns[k]! = x) := hx
      have HSs : Hid (ss[k]! = s) := hs
      clear kN kM hx hs r0 r1 r2 rf
      go_wp2_with fail
      go_region
      go_wp2
      go_roundw
      case rel => exact ⟨k + 1, by go_num, by omega, set3_has hH.out _ _ _, set3_free hF.out _ _ _, Spans.step hSp.out hH.out hlt HX.out HSs.out, (set3_below hB1 (Nat.le_refl _) _ _ _).drew⟩
      case measure => simp [intOf]; omega
    · have r0' := (hB1.cell (p := ⟨w.heap.size, 0, none⟩) (Nat.lt_succ_self _)).trans r0
      have r1' := (hB1.cell (p := ⟨w.heap.size, 1, none⟩) (Nat.lt_succ_self _)).trans r1
      have r2' := (hB1.cell (p := ⟨w.heap.size, 2, none⟩) (Nat.lt_succ_self _)).trans r2
      have q0 := (hB1.frozen (p := ⟨w.heap.size, 0, none⟩) (Nat.lt_succ_self _)).trans (rf 0)
      have q1 := (hB1.frozen (p := ⟨w.heap.size, 1, none⟩) (Nat.lt_succ_self _)).trans (rf 1)
      have q2 := (hB1.frozen (p := ⟨w.heap.size, 2, none⟩) (Nat.lt_succ_self _)).trans (rf 2)
      clear r0 r1 r2 rf
      have e : k = n := by omega
      subst e
      go_wp2
      refine bodyPost_ret (v := .agg #[.slice (some ⟨w.heap.size + 1, 0, none⟩) k k, .int .i64 B, .int .i64 T]) (by simp [results, Try.results8, go_sem, r0', r1', r2']) rfl ⟨rfl, ?_, ?_⟩
      · exact set3_below hB (Nat.le_refl _) _ _ _
      · exact Spans.blk hSp.out (by omega) _ _ _
end Go.Proofs.Qxb6627435a
