import Derived.Test.Qxb6627477aFrames
namespace Go.Proofs.Qxb6627477a
open Go.RowKit
set_option linter.unusedVariables false

def g1 (b : Nat → Nat) (k j : Nat) : Nat := if j < k then b j else if 18 ≤ j ∧ j < 18 + k then b (j + 6) else 0
def g2 (b : Nat → Nat) (k j : Nat) : Nat := if j < 9 then b j else if 18 ≤ j then b (j + 6) else if 9 ≤ j ∧ j < 9 + k then b j else if 14 ≤ j ∧ j < 14 + k then b (j + 6) else 0
theorem g1_last (b : Nat → Nat) (j : Nat) (h : j < 27) : g1 b 9 j = g2 b 0 j := by
  unfold g1 g2
  repeat' split
  all_goals first | rfl | omega
/-- The block that a parameter of 33 bytes is boxed in. -/
theorem box_at (w : World) (f : Nat → Nat) (t : TypeId) : ∀ j, j < 33 → (w.alloc (.cells (frL f 33).toArray t)).cell? ⟨w.heap.size, j, none⟩ = some (.int .u8 (f j : Int)) := fun j hj => by
  have h := frL_get f 33 j hj
  simp [h]

theorem row_upd {w : World} {g m V : Nat} {f : Nat → Nat} (h : Row27 w g f) (hm : m < 27) : Row27 (w.setCell ⟨g, m, none⟩ (.int .u8 (V : Int))) g (fun j => if j = m then V else f j) :=
  row_set h hm (by simp) (fun j _ e => by simp [e])
theorem step1 {w : World} {g k : Nat} {b : Nat → Nat} (h : Row27 w g (g1 b k)) (hk : k < 9) : Hid (Row27 ((w.setCell ⟨g, k, none⟩ (.int .u8 (b k : Int))).setCell ⟨g, 18 + k, none⟩ (.int .u8 (b (24 + k) : Int))) g (g1 b (k + 1))) :=
  (row_upd (row_upd h (by omega)) (by omega)).cong fun j hj => by
    by_cases h1 : j = 18 + k
    · subst h1; unfold g1; rw [if_pos rfl, if_neg (by omega), if_pos (by omega), show 18 + k + 6 = 24 + k by omega]
    · rw [if_neg h1]
      by_cases h2 : j = k
      · subst h2; unfold g1; rw [if_pos rfl, if_pos (by omega)]
      · rw [if_neg h2]; unfold g1
        repeat' split
        all_goals first | rfl | omega
theorem step2 {w : World} {g k : Nat} {b : Nat → Nat} (h : Row27 w g (g2 b k)) (hk : k < 4) : Hid (Row27 ((w.setCell ⟨g, 9 + k, none⟩ (.int .u8 (b (9 + k) : Int))).setCell ⟨g, 9 + (5 + k), none⟩ (.int .u8 (b (20 + k) : Int))) g (g2 b (k + 1))) :=
  (row_upd (row_upd h (by omega)) (by omega)).cong fun j hj => by
    by_cases h1 : j = 9 + (5 + k)
    · subst h1; unfold g2; rw [if_pos rfl, if_neg (by omega), if_neg (by omega), if_neg (by omega), if_pos (by omega), show 9 + (5 + k) + 6 = 20 + k by omega]
    · rw [if_neg h1]
      by_cases h2 : j = 9 + k
      · subst h2; unfold g2; rw [if_pos rfl, if_neg (by omega), if_neg (by omega), if_pos (by omega)]
      · rw [if_neg h2]; unfold g2
        repeat' split
        all_goals first | rfl | omega
theorem step3 {w : World} {g : Nat} {b : Nat → Nat} (h : Row27 w g (g2 b 4)) {V : Nat} (hV : V = (b 13 &&& 240) ||| (b 19 &&& 15)) : Row27 (w.setCell ⟨g, 13, none⟩ (.int .u8 (V : Int))) g (vm b) :=
  (row_upd h (by omega)).cong fun j hj => by
    subst hV
    unfold vm
    by_cases h1 : j = 13
    · subst h1; rw [if_pos rfl, if_neg (by omega), if_pos rfl]
    · rw [if_neg h1]; unfold g2
      repeat' split
      all_goals first | rfl | omega
theorem mid_val (x y : Nat) (hx : x < 256) (hy : y < 256) : bits .or .u8 (bits .and .u8 (x : Int) 240) (bits .and .u8 (y : Int) 15) = (((x &&& 240) ||| (y &&& 15) : Nat) : Int) := by
  have h1 := u8_and_nat x 240 hx (by omega)
  have h2 := u8_and_nat y 15 hy (by omega)
  have h3 := u8_or_nat (x &&& 240) (y &&& 15) (Nat.lt_of_le_of_lt Nat.and_le_left hx) (Nat.lt_of_le_of_lt Nat.and_le_left hy)
  rw [← h1, ← h2] at h3
  exact h3

set_option maxHeartbeats 2000000 in
set_option maxRecDepth 1000000 in
theorem model_any (b : Nat → Nat) (w : World) (hy : Bytes b) :
    Calls Try.prog 6 #[.agg (frL b 33).toArray] w fun e w' => e = .returned (.agg (frL (vm b) 27).toArray) ∧ Below w.heap.size w w' := by
  have HY : Hid (Bytes b) := hy
  clear hy
  go_enter Try.func6, Try.ntmps6
  go_wp2
  have hB0 : Below w.heap.size w (((w.alloc (.cells (frL b 33).toArray 23)).alloc (.cells #[Value.int IntKind.u8 0, Value.int IntKind.u8 0, Value.int IntKind.u8 0, Value.int IntKind.u8 0, Value.int IntKind.u8 0, Value.int IntKind.u8 0, Value.int IntKind.u8 0, Value.int IntKind.u8 0, Value.int IntKind.u8 0, Value.int IntKind.u8 0, Value.int IntKind.u8 0, Value.int IntKind.u8 0, Value.int IntKind.u8 0, Value.int IntKind.u8 0, Value.int IntKind.u8 0, Value.int IntKind.u8 0, Value.int IntKind.u8 0, Value.int IntKind.u8 0, Value.int IntKind.u8 0, Value.int IntKind.u8 0, Value.int IntKind.u8 0, Value.int IntKind.u8 0, Value.int IntKind.u8 0, Value.int IntKind.u8 0, Value.int IntKind.u8 0, Value.int IntKind.u8 0, Value.int IntKind.u8 0] 28)).alloc (.cells #[Value.int IntKind.u8 0, Value.int IntKind.u8 0, Value.int IntKind.u8 0, Value.int IntKind.u8 0, Value.int IntKind.u8 0, Value.int IntKind.u8 0, Value.int IntKind.u8 0, Value.int IntKind.u8 0, Value.int IntKind.u8 0, Value.int IntKind.u8 0, Value.int IntKind.u8 0, Value.int IntKind.u8 0, Value.int IntKind.u8 0, Value.int IntKind.u8 0, Value.int IntKind.u8 0, Value.int IntKind.u8 0, Value.int IntKind.u8 0, Value.int IntKind.u8 0, Value.int IntKind.u8 0, Value.int IntKind.u8 0, Value.int IntKind.u8 0, Value.int IntKind.u8 0, Value.int IntKind.u8 0, Value.int IntKind.u8 0, Value.int IntKind.u8 0, Value.int IntKind.u8 0, Value.int IntKind.u8 0] 28)) := (((Below.refl _ w).alloc (Nat.le_refl _) _).alloc (by simp) _).alloc (by simp; omega) _
  have hX : Hid (∀ j, j < 33 → (((w.alloc (.cells (frL b 33).toArray 23)).alloc (.cells #[Value.int IntKind.u8 0, Value.int IntKind.u8 0, Value.int IntKind.u8 0, Value.int IntKind.u8 0, Value.int IntKind.u8 0, Value.int IntKind.u8 0, Value.int IntKind.u8 0, Value.int IntKind.u8 0, Value.int IntKind.u8 0, Value.int IntKind.u8 0, Value.int IntKind.u8 0, Value.int IntKind.u8 0, Value.int IntKind.u8 0, Value.int IntKind.u8 0, Value.int IntKind.u8 0, Value.int IntKind.u8 0, Value.int IntKind.u8 0, Value.int IntKind.u8 0, Value.int IntKind.u8 0, Value.int IntKind.u8 0, Value.int IntKind.u8 0, Value.int IntKind.u8 0, Value.int IntKind.u8 0, Value.int IntKind.u8 0, Value.int IntKind.u8 0, Value.int IntKind.u8 0, Value.int IntKind.u8 0] 28)).alloc (.cells #[Value.int IntKind.u8 0, Value.int IntKind.u8 0, Value.int IntKind.u8 0, Value.int IntKind.u8 0, Value.int IntKind.u8 0, Value.int IntKind.u8 0, Value.int IntKind.u8 0, Value.int IntKind.u8 0, Value.int IntKind.u8 0, Value.int IntKind.u8 0, Value.int IntKind.u8 0, Value.int IntKind.u8 0, Value.int IntKind.u8 0, Value.int IntKind.u8 0, Value.int IntKind.u8 0, Value.int IntKind.u8 0, Value.int IntKind.u8 0, Value.int IntKind.u8 0, Value.int IntKind.u8 0, Value.int IntKind.u8 0, Value.int IntKind.u8 0, Value.int IntKind.u8 0, Value.int IntKind.u8 0, Value.int IntKind.u8 0, Value.int IntKind.u8 0, Value.int IntKind.u8 0, Value.int IntKind.u8 0] 28)).cell? ⟨w.heap.size, j, none⟩ = some (.int .u8 (b j : Int))) := fun j hj => by
    rw [World.cell?_alloc_past _ _ _ (by simp; omega), World.cell?_alloc_past _ _ _ (by simp)]
    exact box_at w b 23 j hj
  have hR0 : Hid (Row27 (((w.alloc (.cells (frL b 33).toArray 23)).alloc (.cells #[Value.int IntKind.u8 0, Value.int IntKind.u8 0, Value.int IntKind.u8 0, Value.int IntKind.u8 0, Value.int IntKind.u8 0, Value.int IntKind.u8 0, Value.int IntKind.u8 0, Value.int IntKind.u8 0, Value.int IntKind.u8 0, Value.int IntKind.u8 0, Value.int IntKind.u8 0, Value.int IntKind.u8 0, Value.int IntKind.u8 0, Value.int IntKind.u8 0, Value.int IntKind.u8 0, Value.int IntKind.u8 0, Value.int IntKind.u8 0, Value.int IntKind.u8 0, Value.int IntKind.u8 0, Value.int IntKind.u8 0, Value.int IntKind.u8 0, Value.int IntKind.u8 0, Value.int IntKind.u8 0, Value.int IntKind.u8 0, Value.int IntKind.u8 0, Value.int IntKind.u8 0, Value.int IntKind.u8 0] 28)).alloc (.cells #[Value.int IntKind.u8 0, Value.int IntKind.u8 0, Value.int IntKind.u8 0, Value.int IntKind.u8 0, Value.int IntKind.u8 0, Value.int IntKind.u8 0, Value.int IntKind.u8 0, Value.int IntKind.u8 0, Value.int IntKind.u8 0, Value.int IntKind.u8 0, Value.int IntKind.u8 0, Value.int IntKind.u8 0, Value.int IntKind.u8 0, Value.int IntKind.u8 0, Value.int IntKind.u8 0, Value.int IntKind.u8 0, Value.int IntKind.u8 0, Value.int IntKind.u8 0, Value.int IntKind.u8 0, Value.int IntKind.u8 0, Value.int IntKind.u8 0, Value.int IntKind.u8 0, Value.int IntKind.u8 0, Value.int IntKind.u8 0, Value.int IntKind.u8 0, Value.int IntKind.u8 0, Value.int IntKind.u8 0] 28)) (w.heap.size + 1) (fun _ => 0)) := by
    have h := (row_new (w.alloc (.cells (frL b 33).toArray 23)) 28).below ((Below.refl _ _).alloc (Nat.le_refl _) (.cells z27 28))
    rw [World.size_alloc] at h
    exact h
  have hR1 : Hid (Row27 (((w.alloc (.cells (frL b 33).toArray 23)).alloc (.cells #[Value.int IntKind.u8 0, Value.int IntKind.u8 0, Value.int IntKind.u8 0, Value.int IntKind.u8 0, Value.int IntKind.u8 0, Value.int IntKind.u8 0, Value.int IntKind.u8 0, Value.int IntKind.u8 0, Value.int IntKind.u8 0, Value.int IntKind.u8 0, Value.int IntKind.u8 0, Value.int IntKind.u8 0, Value.int IntKind.u8 0, Value.int IntKind.u8 0, Value.int IntKind.u8 0, Value.int IntKind.u8 0, Value.int IntKind.u8 0, Value.int IntKind.u8 0, Value.int IntKind.u8 0, Value.int IntKind.u8 0, Value.int IntKind.u8 0, Value.int IntKind.u8 0, Value.int IntKind.u8 0, Value.int IntKind.u8 0, Value.int IntKind.u8 0, Value.int IntKind.u8 0, Value.int IntKind.u8 0] 28)).alloc (.cells #[Value.int IntKind.u8 0, Value.int IntKind.u8 0, Value.int IntKind.u8 0, Value.int IntKind.u8 0, Value.int IntKind.u8 0, Value.int IntKind.u8 0, Value.int IntKind.u8 0, Value.int IntKind.u8 0, Value.int IntKind.u8 0, Value.int IntKind.u8 0, Value.int IntKind.u8 0, Value.int IntKind.u8 0, Value.int IntKind.u8 0, Value.int IntKind.u8 0, Value.int IntKind.u8 0, Value.int IntKind.u8 0, Value.int IntKind.u8 0, Value.int IntKind.u8 0, Value.int IntKind.u8 0, Value.int IntKind.u8 0, Value.int IntKind.u8 0, Value.int IntKind.u8 0, Value.int IntKind.u8 0, Value.int IntKind.u8 0, Value.int IntKind.u8 0, Value.int IntKind.u8 0, Value.int IntKind.u8 0] 28)) (w.heap.size + 2) (fun _ => 0)) := by
    have h := row_new ((w.alloc (.cells (frL b 33).toArray 23)).alloc (.cells z27 28)) 28
    rw [World.size_alloc, World.size_alloc] at h
    exact h
  generalize ((w.alloc (.cells (frL b 33).toArray 23)).alloc (.cells #[Value.int IntKind.u8 0, Value.int IntKind.u8 0, Value.int IntKind.u8 0, Value.int IntKind.u8 0, Value.int IntKind.u8 0, Value.int IntKind.u8 0, Value.int IntKind.u8 0, Value.int IntKind.u8 0, Value.int IntKind.u8 0, Value.int IntKind.u8 0, Value.int IntKind.u8 0, Value.int IntKind.u8 0, Value.int IntKind.u8 0, Value.int IntKind.u8 0, Value.int IntKind.u8 0, Value.int IntKind.u8 0, Value.int IntKind.u8 0, Value.int IntKind.u8 0, Value.int IntKind.u8 0, Value.int IntKind.u8 0, Value.int IntKind.u8 0, Value.int IntKind.u8 0, Value.int IntKind.u8 0, Value.int IntKind.u8 0, Value.int IntKind.u8 0, Value.int IntKind.u8 0, Value.int IntKind.u8 0] 28)).alloc (.cells #[Value.int IntKind.u8 0, Value.int IntKind.u8 0, Value.int IntKind.u8 0, Value.int IntKind.u8 0, Value.int IntKind.u8 0, Value.int IntKind.u8 0, Value.int IntKind.u8 0, Value.int IntKind.u8 0, Value.int IntKind.u8 0, Value.int IntKind.u8 0, Value.int IntKind.u8 0, Value.int IntKind.u8 0, Value.int IntKind.u8 0, Value.int IntKind.u8 0, Value.int IntKind.u8 0, Value.int IntKind.u8 0, Value.int IntKind.u8 0, Value.int IntKind.u8 0, Value.int IntKind.u8 0, Value.int IntKind.u8 0, Value.int IntKind.u8 0, Value.int IntKind.u8 0, Value.int IntKind.u8 0, Value.int IntKind.u8 0, Value.int IntKind.u8 0, Value.int IntKind.u8 0, Value.int IntKind.u8 0] 28) = w0 at *
  go_loopw [4] (fun i wr => ∃ k : Nat, i = .int .i64 k ∧ k ≤ 9 ∧ Hid (Row27 wr (w.heap.size + 2) (g1 b k)) ∧ Below (w.heap.size + 2) w0 wr) (fun i _ => 9 - (intOf i).toNat)
  case atStart => exact ⟨0, rfl, by omega, hR1.out.cong (fun j hj => by unfold g1; rw [if_neg (by omega), if_neg (by omega)]), Below.refl _ _⟩
  case round =>
    obtain ⟨k, rfl, hk, hR, hB1⟩ := hrel
    by_cases hlt : k < 9
    · have x1 := (hB1.cell (p := ⟨w.heap.size, k, none⟩) (show w.heap.size < w.heap.size + 2 by omega)).trans (hX.out k (by omega))
      have x2 := (hB1.cell (p := ⟨w.heap.size, 24 + k, none⟩) (show w.heap.size < w.heap.size + 2 by omega)).trans (hX.out (24 + k) (by omega))
      have y1 := hR.out k (by omega)
      have y2 := hR.out (18 + k) (by omega)
      obtain ⟨y1, z1⟩ := y1
      obtain ⟨y2, z2⟩ := y2
      have h3 : (24 + (k : Int)).toNat = 24 + k := by omega
      go_wp2
      go_roundw
      case rel => exact ⟨k + 1, by go_num, by omega, step1 hR.out hlt, (hB1.setCell (p := ⟨w.heap.size + 2, k, none⟩) (Nat.le_refl _) _).setCell (p := ⟨w.heap.size + 2, 18 + k, none⟩) (Nat.le_refl _) _⟩
      case measure => simp [intOf]; omega
    · have e : k = 9 := by omega
      subst e
      have hG : Hid (Row27 wr (w.heap.size + 2) (g2 b 0)) := hR.out.cong (g1_last b)
      clear hR hR1 hlt hk
      go_wp2_with fail
      go_loopw [5] (fun i wr => ∃ k : Nat, i = .int .i64 k ∧ k ≤ 4 ∧ Hid (Row27 wr (w.heap.size + 2) (g2 b k)) ∧ Below (w.heap.size + 2) w0 wr) (fun i _ => 4 - (intOf i).toNat)
      case atStart => exact ⟨0, rfl, by omega, hG, hB1⟩
      case round =>
        rename_i wr2
        obtain ⟨k, rfl, hk, hR, hB2⟩ := hrel
        clear hB1 hG
        by_cases hlt : k < 4
        · have x1 := (hB2.cell (p := ⟨w.heap.size, 9 + k, none⟩) (show w.heap.size < w.heap.size + 2 by omega)).trans (hX.out (9 + k) (by omega))
          have x2 := (hB2.cell (p := ⟨w.heap.size, 20 + k, none⟩) (show w.heap.size < w.heap.size + 2 by omega)).trans (hX.out (20 + k) (by omega))
          obtain ⟨y1, z1⟩ := hR.out (9 + k) (by omega)
          obtain ⟨y2, z2⟩ := hR.out (9 + (5 + k)) (by omega)
          have h3 : (9 + (k : Int)).toNat = 9 + k := by omega
          have h4 : (20 + (k : Int)).toNat = 20 + k := by omega
          have h5 : (5 + (k : Int)).toNat = 5 + k := by omega
          go_wp2
          go_roundw
          case rel => exact ⟨k + 1, by go_num, by omega, step2 hR.out hlt, (hB2.setCell (p := ⟨w.heap.size + 2, 9 + k, none⟩) (Nat.le_refl _) _).setCell (p := ⟨w.heap.size + 2, 9 + (5 + k), none⟩) (Nat.le_refl _) _⟩
          case measure => simp [intOf]; omega
        · have e : k = 4 := by omega
          subst e
          have x1 := (hB2.cell (p := ⟨w.heap.size, 13, none⟩) (show w.heap.size < w.heap.size + 2 by omega)).trans (hX.out 13 (by omega))
          have x2 := (hB2.cell (p := ⟨w.heap.size, 19, none⟩) (show w.heap.size < w.heap.size + 2 by omega)).trans (hX.out 19 (by omega))
          obtain ⟨y1, z1⟩ := hR.out 13 (by omega)
          have MV := show Hid _ from mid_val (b 13) (b 19) (HY.out 13 (by omega)) (HY.out 19 (by omega))
          go_upto_region 13 with fail
          have hB3 : Below (w.heap.size + 2) w0 (wr.setCell ⟨w.heap.size + 1 + 1, 13, none⟩ (.int .u8 (bits .or .u8 (bits .and .u8 (b 13 : Int) 240) (bits .and .u8 (b 19 : Int) 15)))) := hB2.setCell (p := ⟨w.heap.size + 2, 13, none⟩) (Nat.le_refl _) _
          have hB4 : Below w.heap.size w (wr.setCell ⟨w.heap.size + 1 + 1, 13, none⟩ (.int .u8 (bits .or .u8 (bits .and .u8 (b 13 : Int) 240) (bits .and .u8 (b 19 : Int) 15)))) := hB0.trans (hB3.mono (by omega))
          have hF : Row27 (wr.setCell ⟨w.heap.size + 1 + 1, 13, none⟩ (.int .u8 (bits .or .u8 (bits .and .u8 (b 13 : Int) 240) (bits .and .u8 (b 19 : Int) 15)))) (w.heap.size + 2) (vm b) := by rw [MV.out]; exact step3 hR.out rfl
          generalize wr.setCell ⟨w.heap.size + 1 + 1, 13, none⟩ (.int .u8 (bits .or .u8 (bits .and .u8 (b 13 : Int) 240) (bits .and .u8 (b 19 : Int) 15))) = w8 at *
          have hZ : Row27 w8 (w.heap.size + 1) (fun _ => 0) := fun j hj => ⟨(hB3.cell (p := ⟨w.heap.size + 1, j, none⟩) (show w.heap.size + 1 < w.heap.size + 2 by omega)).trans (hR0.out j hj).1, (hB3.frozen (p := ⟨w.heap.size + 1, j, none⟩) (show w.heap.size + 1 < w.heap.size + 2 by omega)).trans (hR0.out j hj).2⟩
          have G1 := show Hid _ from row_range hF
          have G2 := show Hid _ from row_there hZ
          clear hF hZ x1 x2 y1 z1 hR hR0 hX hB3
          refine wp_region_lit ?_
          refine wpList_load_mid rfl 28 (.tmp 3) rfl (w.heap.size + 2) 0 rfl (frL (vm b) 27) _ G1.out Try.underlying28 rfl (by rw [frL_len]; kernel_rfl) ?_
          refine wpList_store_mid rfl 28 (.tmp 2) (.tmp 51) rfl (w.heap.size + 1) 0 (frL (vm b) 27).toArray rfl rfl (by rw [frL_size]; exact G2.out) (by rw [frL_size]; kernel_rfl) (frL_one _ _) ?_
          apply wpList_nil
          have hB5 := below_setCells (w.heap.size + 1) (frL (vm b) 27) 0 hB4 (Nat.le_succ _)
          have HL : Hid ((w8.setCells (w.heap.size + 1) 0 (frL (vm b) 27)).rangeAt (w.heap.size + 1) 0 (frL (vm b) 27)) := World.rangeAt_setCells_same _ _ _ _ (by rw [frL_len]; exact G2.out)
          generalize w8.setCells (w.heap.size + 1) 0 (frL (vm b) 27) = w9 at *
          go_wp2
          refine bodyPost_ret (v := .agg (frL (vm b) 27).toArray) (results_cell_mid rfl _ w9 (w.heap.size + 1) 0 (frL (vm b) 27) _ rfl HL.out Try.underlying28 rfl (by rw [frL_len]; kernel_rfl)) rfl ⟨rfl, hB5⟩
end Go.Proofs.Qxb6627477a
