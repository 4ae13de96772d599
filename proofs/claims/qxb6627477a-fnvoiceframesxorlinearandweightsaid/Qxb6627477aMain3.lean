import Derived.Test.Qxb6627477aModel
namespace Go.Proofs.Qxb6627477a
open Go.RowKit
set_option linter.unusedVariables false

/-- n bytes lie at the head of block g, and may be written. -/
def RowN (w : World) (g n : Nat) (f : Nat → Nat) : Prop := ∀ j, j < n → w.cell? ⟨g, j, none⟩ = some (.int .u8 (f j : Int)) ∧ w.frozen? ⟨g, j, none⟩ = false
theorem RowN.below {w w' : World} {g n B : Nat} {f : Nat → Nat} (h : RowN w g n f) (hb : Below B w w') (hg : g < B) : RowN w' g n f := fun j hj => ⟨(hb.cell (p := ⟨g, j, none⟩) hg).trans (h j hj).1, (hb.frozen (p := ⟨g, j, none⟩) hg).trans (h j hj).2⟩
theorem RowN.range {w : World} {g n : Nat} {f : Nat → Nat} (h : RowN w g n f) : w.rangeAt g 0 (frL f n) := range_of fun j hj => by rw [Nat.zero_add]; exact (h j hj).1
theorem RowN.burst {w : World} {g : Nat} {f : Nat → Nat} (h : RowN w g 33 f) : Burst w g 0 f := fun j hj => by rw [Nat.zero_add]; exact (h j hj).1
theorem RowN.upd {w : World} {g n m V : Nat} {f : Nat → Nat} (h : RowN w g n f) (hm : m < n) : RowN (w.setCell ⟨g, m, none⟩ (.int .u8 (V : Int))) g n (fun j => if j = m then V else f j) := fun j hj => by
  rw [World.frozen?_setCell]
  by_cases e : j = m
  · subst e
    exact ⟨by rw [World.cell?_setCell_same' _ _ _ (by rw [(h j hj).1]; rfl)]; simp, (h j hj).2⟩
  · exact ⟨by rw [World.cell?_setCell_other _ _ _ _ (fun x => e (by injection x; omega))]; simp only [if_neg e]; exact (h j hj).1, (h j hj).2⟩
theorem RowN.cong {w : World} {g n : Nat} {f f' : Nat → Nat} (h : RowN w g n f) (e : ∀ j, j < n → f j = f' j) : RowN w g n f' := fun j hj => by rw [← e j hj]; exact h j hj
def z33 : Array Value := #[Value.int IntKind.u8 0, Value.int IntKind.u8 0, Value.int IntKind.u8 0, Value.int IntKind.u8 0, Value.int IntKind.u8 0, Value.int IntKind.u8 0, Value.int IntKind.u8 0, Value.int IntKind.u8 0, Value.int IntKind.u8 0, Value.int IntKind.u8 0, Value.int IntKind.u8 0, Value.int IntKind.u8 0, Value.int IntKind.u8 0, Value.int IntKind.u8 0, Value.int IntKind.u8 0, Value.int IntKind.u8 0, Value.int IntKind.u8 0, Value.int IntKind.u8 0, Value.int IntKind.u8 0, Value.int IntKind.u8 0, Value.int IntKind.u8 0, Value.int IntKind.u8 0, Value.int IntKind.u8 0, Value.int IntKind.u8 0, Value.int IntKind.u8 0, Value.int IntKind.u8 0, Value.int IntKind.u8 0, Value.int IntKind.u8 0, Value.int IntKind.u8 0, Value.int IntKind.u8 0, Value.int IntKind.u8 0, Value.int IntKind.u8 0, Value.int IntKind.u8 0]
theorem z33_at (j : Nat) (h : j < 33) : z33[j]? = some (.int .u8 0) := by
  have e : z33 = Array.replicate 33 (.int .u8 0) := rfl
  rw [e]
  simp [h]
theorem new33 (w : World) (t : TypeId) : RowN (w.alloc (.cells z33 t)) w.heap.size 33 (fun _ => 0) := fun j hj => ⟨by simp [z33_at j hj], by simp⟩
theorem new27 (w : World) (t : TypeId) : RowN (w.alloc (.cells z27 t)) w.heap.size 27 (fun _ => 0) := fun j hj => ⟨by simp [z27_at j hj], by simp⟩
theorem RowN.there {w : World} {g n : Nat} {f : Nat → Nat} (h : RowN w g n f) : w.there g 0 n := fun j hj => by rw [Nat.zero_add, (h j hj).1]; exact ⟨rfl, (h j hj).2⟩
theorem RowN.filled {w : World} {g n : Nat} {f f' : Nat → Nat} (h : RowN w g n f) : RowN (w.setCells g 0 (frL f' n)) g n f' := fun j hj => by
  have h1 := World.rangeAt_setCells_same w g 0 (frL f' n) (by rw [frL_len]; exact h.there) j _ (frL_get f' n j hj)
  rw [Nat.zero_add] at h1
  exact ⟨h1, by rw [World.frozen?_setCells]; exact (h j hj).2⟩
/-- A new variable of 33 bytes, filled. -/
theorem var33 (w : World) (t : TypeId) (f : Nat → Nat) : RowN ((w.alloc (.cells z33 t)).setCells w.heap.size 0 (frL f 33)) w.heap.size 33 f ∧ Below w.heap.size w ((w.alloc (.cells z33 t)).setCells w.heap.size 0 (frL f 33)) ∧ w.heap.size < ((w.alloc (.cells z33 t)).setCells w.heap.size 0 (frL f 33)).heap.size := by
  have h1 : RowN ((w.alloc (.cells z33 t)).setCells w.heap.size 0 (frL f 33)) w.heap.size 33 f := (new33 w t).filled
  exact ⟨h1, below_setCells _ _ _ ((Below.refl _ w).alloc (Nat.le_refl _) _) (Nat.le_refl _), cell_lt (h1 0 (by omega)).1⟩
theorem var27 (w : World) (t : TypeId) (f : Nat → Nat) : RowN ((w.alloc (.cells z27 t)).setCells w.heap.size 0 (frL f 27)) w.heap.size 27 f ∧ Below w.heap.size w ((w.alloc (.cells z27 t)).setCells w.heap.size 0 (frL f 27)) ∧ w.heap.size < ((w.alloc (.cells z27 t)).setCells w.heap.size 0 (frL f 27)).heap.size := by
  have h1 : RowN ((w.alloc (.cells z27 t)).setCells w.heap.size 0 (frL f 27)) w.heap.size 27 f := (new27 w t).filled
  exact ⟨h1, below_setCells _ _ _ ((Below.refl _ w).alloc (Nat.le_refl _) _) (Nat.le_refl _), cell_lt (h1 0 (by omega)).1⟩
theorem there33 (w : World) (t : TypeId) (f : Nat → Nat) : (w.alloc (.cells z33 t)).there w.heap.size 0 (frL f 33).toArray.size := by rw [frL_size]; exact (new33 w t).there
theorem there27 (w : World) (t : TypeId) (f : Nat → Nat) : (w.alloc (.cells z27 t)).there w.heap.size 0 (frL f 27).toArray.size := by rw [frL_size]; exact (new27 w t).there
theorem Burst.range {w : World} {bb off : Nat} {b : Nat → Nat} (h : Burst w bb off b) : w.rangeAt bb off (frL b 33) := range_of h

/-- The mixed burst on its way, and at its end. -/
def mx (b o : Nat → Nat) (k j : Nat) : Nat := if j = 13 then (b 13 &&& 240) ||| (o 13 &&& 15) else if 14 ≤ j ∧ j < k then o j else b j
def mf (b o : Nat → Nat) : Nat → Nat := fun j => if j = 19 then (o 19 &&& 240) ||| (b 19 &&& 15) else mx b o 19 j
theorem mx_start (b o : Nat → Nat) (j : Nat) (h : j < 33) : (fun j => if j = 13 then (b 13 &&& 240) ||| (o 13 &&& 15) else b j) j = mx b o 14 j := by
  show (if j = 13 then (b 13 &&& 240) ||| (o 13 &&& 15) else b j) = _
  unfold mx
  repeat' split
  all_goals first | rfl | omega
theorem mx_step (b o : Nat → Nat) (k : Nat) (hk : 14 ≤ k) (j : Nat) (h : j < 33) : (fun j => if j = k then o k else mx b o k j) j = mx b o (k + 1) j := by
  unfold mx
  by_cases e : j = k
  · subst e
    simp only [if_true]
    rw [if_neg (by omega), if_pos (by omega)]
  · simp only [if_neg e]
    repeat' split
    all_goals first | rfl | omega
theorem nib_hi (x y : Nat) : ((x &&& 240) ||| (y &&& 15)) &&& 240 = x &&& 240 := by
  apply Nat.eq_of_testBit_eq
  intro i
  simp only [Nat.testBit_and, Nat.testBit_or]
  by_cases h : i < 8
  · obtain rfl | rfl | rfl | rfl | rfl | rfl | rfl | rfl : i = 0 ∨ i = 1 ∨ i = 2 ∨ i = 3 ∨ i = 4 ∨ i = 5 ∨ i = 6 ∨ i = 7 := by omega
    all_goals simp [Nat.testBit, Nat.shiftRight_eq_div_pow]
  · have e : Nat.testBit 240 i = false := Nat.testBit_lt_two_pow (Nat.lt_of_lt_of_le (by decide : 240 < 2 ^ 8) (Nat.pow_le_pow_right (by omega) (by omega)))
    simp [e]
theorem nib_lo (x y : Nat) : ((x &&& 240) ||| (y &&& 15)) &&& 15 = y &&& 15 := by
  apply Nat.eq_of_testBit_eq
  intro i
  simp only [Nat.testBit_and, Nat.testBit_or]
  by_cases h : i < 8
  · obtain rfl | rfl | rfl | rfl | rfl | rfl | rfl | rfl : i = 0 ∨ i = 1 ∨ i = 2 ∨ i = 3 ∨ i = 4 ∨ i = 5 ∨ i = 6 ∨ i = 7 := by omega
    all_goals simp [Nat.testBit, Nat.shiftRight_eq_div_pow]
  · have e : Nat.testBit 15 i = false := Nat.testBit_lt_two_pow (Nat.lt_of_lt_of_le (by decide : 15 < 2 ^ 8) (Nat.pow_le_pow_right (by omega) (by omega)))
    simp [e]
theorem vm_mf (b o : Nat → Nat) (m : Nat) (h : m < 27) : vm (mf b o) m = vm b m := by
  have e13 : mf b o 13 = (b 13 &&& 240) ||| (o 13 &&& 15) := rfl
  have e19 : mf b o 19 = (o 19 &&& 240) ||| (b 19 &&& 15) := rfl
  unfold vm
  by_cases h1 : m < 13
  · rw [if_pos h1, if_pos h1]
    unfold mf mx
    rw [if_neg (by omega), if_neg (by omega), if_neg (by omega)]
  · rw [if_neg h1, if_neg h1]
    by_cases h2 : m = 13
    · rw [if_pos h2, if_pos h2, e13, e19, nib_hi, nib_lo]
    · rw [if_neg h2, if_neg h2]
      unfold mf mx
      rw [if_neg (by omega), if_neg (by omega), if_neg (by omega)]
theorem or_lt {x y : Nat} (hx : x < 256) (hy : y < 256) : (x &&& 240) ||| (y &&& 15) < 256 := Nat.or_lt_two_pow (n := 8) (Nat.lt_of_le_of_lt Nat.and_le_left hx) (Nat.lt_of_le_of_lt Nat.and_le_left hy)
theorem mf_bytes {b o : Nat → Nat} (hb : Bytes b) (ho : Bytes o) : Bytes (mf b o) := fun j hj => by
  unfold mf mx
  repeat' split
  · exact or_lt (ho 19 (by omega)) (hb 19 (by omega))
  · exact or_lt (hb 13 (by omega)) (ho 13 (by omega))
  · exact ho j hj
  · exact hb j hj

theorem belowN {B : Nat} {a w : World} (h : Below B a w) (n : Nat) : Below B a (w.drewN n) := ⟨h.os, h.tape, h.output, h.size, h.block⟩

theorem nil_l (q : Option Addr) (w : World) : Calls Try.prog 3 #[.pointer none, .pointer q] w fun e w' => e = .returned (.bool true) ∧ Below w.heap.size w w' := by
  go_enter Try.func3, Try.ntmps3
  go_wp2
  go_ret
  exact ⟨rfl, Below.refl _ _⟩
theorem nil_r (a : Addr) (w : World) : Calls Try.prog 3 #[.pointer (some a), .pointer none] w fun e w' => e = .returned (.bool true) ∧ Below w.heap.size w w' := by
  go_enter Try.func3, Try.ntmps3
  go_wp2
  go_ret
  exact ⟨rfl, Below.refl _ _⟩

set_option maxHeartbeats 4000000 in
set_option maxRecDepth 1000000 in
theorem walk3 (bb off ob oo : Nat) (b o : Nat → Nat) (w : World) (hb : Burst w bb off b) (ho : Burst w ob oo o) (hyb : Bytes b) (hyo : Bytes o) :
    Calls Try.prog 3 #[.pointer (some ⟨bb, off, none⟩), .pointer (some ⟨ob, oo, none⟩)] w fun e w' => e = .returned (.bool true) ∧ Below w.heap.size w w' := by
  have HB : Hid (Burst w bb off b) := hb
  have HO : Hid (Burst w ob oo o) := ho
  have HYB : Hid (Bytes b) := hyb
  have HYO : Hid (Bytes o) := hyo
  clear hb ho hyb hyo
  go_enter Try.func3, Try.ntmps3
  go_upto_region 4 with (first
    | (refine wpList_load_mid rfl 23 (.tmp 21) rfl bb off rfl (frL b 33) _ HB.out.range Try.underlying23 rfl (by rw [frL_len]; kernel_rfl) ?_)
    | (refine wpList_store_mid rfl 23 (.tmp 5) (.tmp 22) rfl w.heap.size 0 (frL b 33).toArray rfl rfl (by exact there33 w 23 b) (by rw [frL_size]; kernel_rfl) (frL_one _ _) ?_))
  obtain ⟨v1, b1, s1⟩ := var33 w 23 b
  have V1 : Hid (RowN ((w.alloc (.cells #[Value.int IntKind.u8 0, Value.int IntKind.u8 0, Value.int IntKind.u8 0, Value.int IntKind.u8 0, Value.int IntKind.u8 0, Value.int IntKind.u8 0, Value.int IntKind.u8 0, Value.int IntKind.u8 0, Value.int IntKind.u8 0, Value.int IntKind.u8 0, Value.int IntKind.u8 0, Value.int IntKind.u8 0, Value.int IntKind.u8 0, Value.int IntKind.u8 0, Value.int IntKind.u8 0, Value.int IntKind.u8 0, Value.int IntKind.u8 0, Value.int IntKind.u8 0, Value.int IntKind.u8 0, Value.int IntKind.u8 0, Value.int IntKind.u8 0, Value.int IntKind.u8 0, Value.int IntKind.u8 0, Value.int IntKind.u8 0, Value.int IntKind.u8 0, Value.int IntKind.u8 0, Value.int IntKind.u8 0, Value.int IntKind.u8 0, Value.int IntKind.u8 0, Value.int IntKind.u8 0, Value.int IntKind.u8 0, Value.int IntKind.u8 0, Value.int IntKind.u8 0] 23)).setCells w.heap.size 0 (frL b 33)) w.heap.size 33 b) := v1
  have bl1 : Below w.heap.size w ((w.alloc (.cells #[Value.int IntKind.u8 0, Value.int IntKind.u8 0, Value.int IntKind.u8 0, Value.int IntKind.u8 0, Value.int IntKind.u8 0, Value.int IntKind.u8 0, Value.int IntKind.u8 0, Value.int IntKind.u8 0, Value.int IntKind.u8 0, Value.int IntKind.u8 0, Value.int IntKind.u8 0, Value.int IntKind.u8 0, Value.int IntKind.u8 0, Value.int IntKind.u8 0, Value.int IntKind.u8 0, Value.int IntKind.u8 0, Value.int IntKind.u8 0, Value.int IntKind.u8 0, Value.int IntKind.u8 0, Value.int IntKind.u8 0, Value.int IntKind.u8 0, Value.int IntKind.u8 0, Value.int IntKind.u8 0, Value.int IntKind.u8 0, Value.int IntKind.u8 0, Value.int IntKind.u8 0, Value.int IntKind.u8 0, Value.int IntKind.u8 0, Value.int IntKind.u8 0, Value.int IntKind.u8 0, Value.int IntKind.u8 0, Value.int IntKind.u8 0, Value.int IntKind.u8 0] 23)).setCells w.heap.size 0 (frL b 33)) := b1
  have sz1 : w.heap.size < ((w.alloc (.cells #[Value.int IntKind.u8 0, Value.int IntKind.u8 0, Value.int IntKind.u8 0, Value.int IntKind.u8 0, Value.int IntKind.u8 0, Value.int IntKind.u8 0, Value.int IntKind.u8 0, Value.int IntKind.u8 0, Value.int IntKind.u8 0, Value.int IntKind.u8 0, Value.int IntKind.u8 0, Value.int IntKind.u8 0, Value.int IntKind.u8 0, Value.int IntKind.u8 0, Value.int IntKind.u8 0, Value.int IntKind.u8 0, Value.int IntKind.u8 0, Value.int IntKind.u8 0, Value.int IntKind.u8 0, Value.int IntKind.u8 0, Value.int IntKind.u8 0, Value.int IntKind.u8 0, Value.int IntKind.u8 0, Value.int IntKind.u8 0, Value.int IntKind.u8 0, Value.int IntKind.u8 0, Value.int IntKind.u8 0, Value.int IntKind.u8 0, Value.int IntKind.u8 0, Value.int IntKind.u8 0, Value.int IntKind.u8 0, Value.int IntKind.u8 0, Value.int IntKind.u8 0] 23)).setCells w.heap.size 0 (frL b 33)).heap.size := s1
  clear v1 b1 s1
  generalize (w.alloc (.cells #[Value.int IntKind.u8 0, Value.int IntKind.u8 0, Value.int IntKind.u8 0, Value.int IntKind.u8 0, Value.int IntKind.u8 0, Value.int IntKind.u8 0, Value.int IntKind.u8 0, Value.int IntKind.u8 0, Value.int IntKind.u8 0, Value.int IntKind.u8 0, Value.int IntKind.u8 0, Value.int IntKind.u8 0, Value.int IntKind.u8 0, Value.int IntKind.u8 0, Value.int IntKind.u8 0, Value.int IntKind.u8 0, Value.int IntKind.u8 0, Value.int IntKind.u8 0, Value.int IntKind.u8 0, Value.int IntKind.u8 0, Value.int IntKind.u8 0, Value.int IntKind.u8 0, Value.int IntKind.u8 0, Value.int IntKind.u8 0, Value.int IntKind.u8 0, Value.int IntKind.u8 0, Value.int IntKind.u8 0, Value.int IntKind.u8 0, Value.int IntKind.u8 0, Value.int IntKind.u8 0, Value.int IntKind.u8 0, Value.int IntKind.u8 0, Value.int IntKind.u8 0] 23)).setCells w.heap.size 0 (frL b 33) = w1 at *
  have HO1 : Hid (Burst w1 ob oo o) := HO.out.below bl1
  clear HB HO
  generalize hB1 : w.heap.size = B1 at *
  go_upto_region 5 with (first
    | (refine wpList_load_mid rfl 23 (.tmp 24) rfl ob oo rfl (frL o 33) _ HO1.out.range Try.underlying23 rfl (by rw [frL_len]; kernel_rfl) ?_)
    | (refine wpList_store_mid rfl 23 (.tmp 6) (.tmp 25) rfl w1.heap.size 0 (frL o 33).toArray rfl rfl (by exact there33 w1 23 o) (by rw [frL_size]; kernel_rfl) (frL_one _ _) ?_))
  obtain ⟨v2, b2, s2⟩ := var33 w1 23 o
  have V2 : Hid (RowN ((w1.alloc (.cells #[Value.int IntKind.u8 0, Value.int IntKind.u8 0, Value.int IntKind.u8 0, Value.int IntKind.u8 0, Value.int IntKind.u8 0, Value.int IntKind.u8 0, Value.int IntKind.u8 0, Value.int IntKind.u8 0, Value.int IntKind.u8 0, Value.int IntKind.u8 0, Value.int IntKind.u8 0, Value.int IntKind.u8 0, Value.int IntKind.u8 0, Value.int IntKind.u8 0, Value.int IntKind.u8 0, Value.int IntKind.u8 0, Value.int IntKind.u8 0, Value.int IntKind.u8 0, Value.int IntKind.u8 0, Value.int IntKind.u8 0, Value.int IntKind.u8 0, Value.int IntKind.u8 0, Value.int IntKind.u8 0, Value.int IntKind.u8 0, Value.int IntKind.u8 0, Value.int IntKind.u8 0, Value.int IntKind.u8 0, Value.int IntKind.u8 0, Value.int IntKind.u8 0, Value.int IntKind.u8 0, Value.int IntKind.u8 0, Value.int IntKind.u8 0, Value.int IntKind.u8 0] 23)).setCells w1.heap.size 0 (frL o 33)) w1.heap.size 33 o) := v2
  have bl2 : Below w1.heap.size w1 ((w1.alloc (.cells #[Value.int IntKind.u8 0, Value.int IntKind.u8 0, Value.int IntKind.u8 0, Value.int IntKind.u8 0, Value.int IntKind.u8 0, Value.int IntKind.u8 0, Value.int IntKind.u8 0, Value.int IntKind.u8 0, Value.int IntKind.u8 0, Value.int IntKind.u8 0, Value.int IntKind.u8 0, Value.int IntKind.u8 0, Value.int IntKind.u8 0, Value.int IntKind.u8 0, Value.int IntKind.u8 0, Value.int IntKind.u8 0, Value.int IntKind.u8 0, Value.int IntKind.u8 0, Value.int IntKind.u8 0, Value.int IntKind.u8 0, Value.int IntKind.u8 0, Value.int IntKind.u8 0, Value.int IntKind.u8 0, Value.int IntKind.u8 0, Value.int IntKind.u8 0, Value.int IntKind.u8 0, Value.int IntKind.u8 0, Value.int IntKind.u8 0, Value.int IntKind.u8 0, Value.int IntKind.u8 0, Value.int IntKind.u8 0, Value.int IntKind.u8 0, Value.int IntKind.u8 0] 23)).setCells w1.heap.size 0 (frL o 33)) := b2
  have sz2 : w1.heap.size < ((w1.alloc (.cells #[Value.int IntKind.u8 0, Value.int IntKind.u8 0, Value.int IntKind.u8 0, Value.int IntKind.u8 0, Value.int IntKind.u8 0, Value.int IntKind.u8 0, Value.int IntKind.u8 0, Value.int IntKind.u8 0, Value.int IntKind.u8 0, Value.int IntKind.u8 0, Value.int IntKind.u8 0, Value.int IntKind.u8 0, Value.int IntKind.u8 0, Value.int IntKind.u8 0, Value.int IntKind.u8 0, Value.int IntKind.u8 0, Value.int IntKind.u8 0, Value.int IntKind.u8 0, Value.int IntKind.u8 0, Value.int IntKind.u8 0, Value.int IntKind.u8 0, Value.int IntKind.u8 0, Value.int IntKind.u8 0, Value.int IntKind.u8 0, Value.int IntKind.u8 0, Value.int IntKind.u8 0, Value.int IntKind.u8 0, Value.int IntKind.u8 0, Value.int IntKind.u8 0, Value.int IntKind.u8 0, Value.int IntKind.u8 0, Value.int IntKind.u8 0, Value.int IntKind.u8 0] 23)).setCells w1.heap.size 0 (frL o 33)).heap.size := s2
  clear v2 b2 s2
  generalize (w1.alloc (.cells #[Value.int IntKind.u8 0, Value.int IntKind.u8 0, Value.int IntKind.u8 0, Value.int IntKind.u8 0, Value.int IntKind.u8 0, Value.int IntKind.u8 0, Value.int IntKind.u8 0, Value.int IntKind.u8 0, Value.int IntKind.u8 0, Value.int IntKind.u8 0, Value.int IntKind.u8 0, Value.int IntKind.u8 0, Value.int IntKind.u8 0, Value.int IntKind.u8 0, Value.int IntKind.u8 0, Value.int IntKind.u8 0, Value.int IntKind.u8 0, Value.int IntKind.u8 0, Value.int IntKind.u8 0, Value.int IntKind.u8 0, Value.int IntKind.u8 0, Value.int IntKind.u8 0, Value.int IntKind.u8 0, Value.int IntKind.u8 0, Value.int IntKind.u8 0, Value.int IntKind.u8 0, Value.int IntKind.u8 0, Value.int IntKind.u8 0, Value.int IntKind.u8 0, Value.int IntKind.u8 0, Value.int IntKind.u8 0, Value.int IntKind.u8 0, Value.int IntKind.u8 0] 23)).setCells w1.heap.size 0 (frL o 33) = w2 at *
  have V1' : Hid (RowN w2 B1 33 b) := V1.out.below bl2 sz1
  have bw2 : Below B1 w w2 := bl1.trans (bl2.mono (by omega))
  clear V1 bl1 bl2 HO1
  generalize hB2 : w1.heap.size = B2 at *
  go_upto_region 6 with (first
    | (refine wpList_load_mid rfl 23 (.tmp 5) rfl B1 0 rfl (frL b 33) _ V1'.out.range Try.underlying23 rfl (by rw [frL_len]; kernel_rfl) ?_)
    | (refine wpList_store_mid rfl 23 (.tmp 7) (.tmp 26) rfl w2.heap.size 0 (frL b 33).toArray rfl rfl (by exact there33 w2 23 b) (by rw [frL_size]; kernel_rfl) (frL_one _ _) ?_))
  obtain ⟨v3, b3, s3⟩ := var33 w2 23 b
  have V3 : Hid (RowN ((w2.alloc (.cells #[Value.int IntKind.u8 0, Value.int IntKind.u8 0, Value.int IntKind.u8 0, Value.int IntKind.u8 0, Value.int IntKind.u8 0, Value.int IntKind.u8 0, Value.int IntKind.u8 0, Value.int IntKind.u8 0, Value.int IntKind.u8 0, Value.int IntKind.u8 0, Value.int IntKind.u8 0, Value.int IntKind.u8 0, Value.int IntKind.u8 0, Value.int IntKind.u8 0, Value.int IntKind.u8 0, Value.int IntKind.u8 0, Value.int IntKind.u8 0, Value.int IntKind.u8 0, Value.int IntKind.u8 0, Value.int IntKind.u8 0, Value.int IntKind.u8 0, Value.int IntKind.u8 0, Value.int IntKind.u8 0, Value.int IntKind.u8 0, Value.int IntKind.u8 0, Value.int IntKind.u8 0, Value.int IntKind.u8 0, Value.int IntKind.u8 0, Value.int IntKind.u8 0, Value.int IntKind.u8 0, Value.int IntKind.u8 0, Value.int IntKind.u8 0, Value.int IntKind.u8 0] 23)).setCells w2.heap.size 0 (frL b 33)) w2.heap.size 33 b) := v3
  have bl3 : Below w2.heap.size w2 ((w2.alloc (.cells #[Value.int IntKind.u8 0, Value.int IntKind.u8 0, Value.int IntKind.u8 0, Value.int IntKind.u8 0, Value.int IntKind.u8 0, Value.int IntKind.u8 0, Value.int IntKind.u8 0, Value.int IntKind.u8 0, Value.int IntKind.u8 0, Value.int IntKind.u8 0, Value.int IntKind.u8 0, Value.int IntKind.u8 0, Value.int IntKind.u8 0, Value.int IntKind.u8 0, Value.int IntKind.u8 0, Value.int IntKind.u8 0, Value.int IntKind.u8 0, Value.int IntKind.u8 0, Value.int IntKind.u8 0, Value.int IntKind.u8 0, Value.int IntKind.u8 0, Value.int IntKind.u8 0, Value.int IntKind.u8 0, Value.int IntKind.u8 0, Value.int IntKind.u8 0, Value.int IntKind.u8 0, Value.int IntKind.u8 0, Value.int IntKind.u8 0, Value.int IntKind.u8 0, Value.int IntKind.u8 0, Value.int IntKind.u8 0, Value.int IntKind.u8 0, Value.int IntKind.u8 0] 23)).setCells w2.heap.size 0 (frL b 33)) := b3
  have sz3 : w2.heap.size < ((w2.alloc (.cells #[Value.int IntKind.u8 0, Value.int IntKind.u8 0, Value.int IntKind.u8 0, Value.int IntKind.u8 0, Value.int IntKind.u8 0, Value.int IntKind.u8 0, Value.int IntKind.u8 0, Value.int IntKind.u8 0, Value.int IntKind.u8 0, Value.int IntKind.u8 0, Value.int IntKind.u8 0, Value.int IntKind.u8 0, Value.int IntKind.u8 0, Value.int IntKind.u8 0, Value.int IntKind.u8 0, Value.int IntKind.u8 0, Value.int IntKind.u8 0, Value.int IntKind.u8 0, Value.int IntKind.u8 0, Value.int IntKind.u8 0, Value.int IntKind.u8 0, Value.int IntKind.u8 0, Value.int IntKind.u8 0, Value.int IntKind.u8 0, Value.int IntKind.u8 0, Value.int IntKind.u8 0, Value.int IntKind.u8 0, Value.int IntKind.u8 0, Value.int IntKind.u8 0, Value.int IntKind.u8 0, Value.int IntKind.u8 0, Value.int IntKind.u8 0, Value.int IntKind.u8 0] 23)).setCells w2.heap.size 0 (frL b 33)).heap.size := s3
  clear v3 b3 s3
  generalize (w2.alloc (.cells #[Value.int IntKind.u8 0, Value.int IntKind.u8 0, Value.int IntKind.u8 0, Value.int IntKind.u8 0, Value.int IntKind.u8 0, Value.int IntKind.u8 0, Value.int IntKind.u8 0, Value.int IntKind.u8 0, Value.int IntKind.u8 0, Value.int IntKind.u8 0, Value.int IntKind.u8 0, Value.int IntKind.u8 0, Value.int IntKind.u8 0, Value.int IntKind.u8 0, Value.int IntKind.u8 0, Value.int IntKind.u8 0, Value.int IntKind.u8 0, Value.int IntKind.u8 0, Value.int IntKind.u8 0, Value.int IntKind.u8 0, Value.int IntKind.u8 0, Value.int IntKind.u8 0, Value.int IntKind.u8 0, Value.int IntKind.u8 0, Value.int IntKind.u8 0, Value.int IntKind.u8 0, Value.int IntKind.u8 0, Value.int IntKind.u8 0, Value.int IntKind.u8 0, Value.int IntKind.u8 0, Value.int IntKind.u8 0, Value.int IntKind.u8 0, Value.int IntKind.u8 0] 23)).setCells w2.heap.size 0 (frL b 33) = w3 at *
  have V1 : Hid (RowN w3 B1 33 b) := V1'.out.below bl3 (by omega)
  have V2' : Hid (RowN w3 B2 33 o) := V2.out.below bl3 (by omega)
  have bw3 : Below B1 w w3 := bw2.trans (bl3.mono (by omega))
  clear V1' V2 bl3 bw2
  generalize hB3 : w2.heap.size = B3 at *
  obtain ⟨p1, _⟩ := V1.out 13 (by omega)
  obtain ⟨p2, _⟩ := V2'.out 13 (by omega)
  obtain ⟨p3, p4⟩ := V3.out 13 (by omega)
  have hne1 : B1 < B2 := by omega
  have hne2 : B2 < B3 := by omega
  have HB1 : Hid (w.heap.size = B1) := hB1
  clear hB1 hB2 hB3
  go_wp2_with fail
  have R4 : Hid (RowN (w3.setCell ⟨B3, 13, none⟩ (.int .u8 (bits .or .u8 (bits .and .u8 (b 13 : Int) 240) (bits .and .u8 (o 13 : Int) 15)))) B3 33 (mx b o 14)) := by
    rw [mid_val (b 13) (o 13) (HYB.out 13 (by omega)) (HYO.out 13 (by omega))]
    exact (V3.out.upd (by omega)).cong (mx_start b o)
  have bl4 : Below B3 w3 (w3.setCell ⟨B3, 13, none⟩ (.int .u8 (bits .or .u8 (bits .and .u8 (b 13 : Int) 240) (bits .and .u8 (o 13 : Int) 15)))) := (Below.refl _ _).setCell (p := ⟨B3, 13, none⟩) (Nat.le_refl _) _
  have sz4 : B3 < (w3.setCell ⟨B3, 13, none⟩ (.int .u8 (bits .or .u8 (bits .and .u8 (b 13 : Int) 240) (bits .and .u8 (o 13 : Int) 15)))).heap.size := Nat.lt_of_lt_of_le sz3 bl4.size
  generalize w3.setCell ⟨B3, 13, none⟩ (.int .u8 (bits .or .u8 (bits .and .u8 (b 13 : Int) 240) (bits .and .u8 (o 13 : Int) 15))) = w4 at *
  have U1 : Hid (RowN w4 B1 33 b) := V1.out.below bl4 (by omega)
  have U2 : Hid (RowN w4 B2 33 o) := V2'.out.below bl4 (by omega)
  have bw4 : Below B1 w w4 := bw3.trans (bl4.mono (by omega))
  clear V1 V2' V3 p1 p2 p3 p4 bl4 bw3
  go_loopw [8] (fun i wr => ∃ k : Nat, i = .int .i64 k ∧ 14 ≤ k ∧ k ≤ 19 ∧ Hid (RowN wr B3 33 (mx b o k)) ∧ Below B3 w4 wr) (fun i _ => 19 - (intOf i).toNat)
  case atStart => exact ⟨14, rfl, by omega, by omega, R4, Below.refl _ _⟩
  case round =>
    obtain ⟨k, rfl, hk1, hk2, hR, hB⟩ := hrel
    by_cases hlt : k < 19
    · obtain ⟨p1, _⟩ := (U2.out.below hB hne2) k (by omega)
      obtain ⟨p3, p4⟩ := hR.out k (by omega)
      go_wp2
      go_roundw
      case rel => exact ⟨k + 1, by go_num, by omega, by omega, (hR.out.upd (by omega)).cong (mx_step b o k hk1), hB.setCell (p := ⟨B3, k, none⟩) (Nat.le_refl _) _⟩
      case measure => simp [intOf]; omega
    · have e : k = 19 := by omega
      subst e
      clear hk1 hk2 hlt
      obtain ⟨p1, _⟩ := (U1.out.below hB (by omega)) 19 (by omega)
      obtain ⟨p2, _⟩ := (U2.out.below hB hne2) 19 (by omega)
      obtain ⟨p3, p4⟩ := hR.out 19 (by omega)
      go_upto_region 12 with fail
      have R6 : Hid (RowN (wr.setCell ⟨B3, 19, none⟩ (.int .u8 (bits .or .u8 (bits .and .u8 (o 19 : Int) 240) (bits .and .u8 (b 19 : Int) 15)))) B3 33 (mf b o)) := by
        rw [mid_val (o 19) (b 19) (HYO.out 19 (by omega)) (HYB.out 19 (by omega))]
        exact hR.out.upd (by omega)
      have bl6 : Below B3 w4 (wr.setCell ⟨B3, 19, none⟩ (.int .u8 (bits .or .u8 (bits .and .u8 (o 19 : Int) 240) (bits .and .u8 (b 19 : Int) 15)))) := hB.setCell (p := ⟨B3, 19, none⟩) (Nat.le_refl _) _
      have sz6 : B3 < (wr.setCell ⟨B3, 19, none⟩ (.int .u8 (bits .or .u8 (bits .and .u8 (o 19 : Int) 240) (bits .and .u8 (b 19 : Int) 15)))).heap.size := Nat.lt_of_lt_of_le sz4 bl6.size
      generalize wr.setCell ⟨B3, 19, none⟩ (.int .u8 (bits .or .u8 (bits .and .u8 (o 19 : Int) 240) (bits .and .u8 (b 19 : Int) 15))) = w6 at *
      have X1 : Hid (RowN w6 B1 33 b) := U1.out.below bl6 (by omega)
      have bw6 : Below B1 w w6 := bw4.trans (bl6.mono (by omega))
      clear U1 U2 R4 hR hB p1 p2 p3 p4 bl6 bw4 sz4 sz3 sz2 sz1
      go_wp2_with fail
      refine (frames_any B1 0 b _ X1.out.burst HYB.out).mono ?_
      rintro e w7 ⟨rfl, b7⟩
      have X7 : Hid (RowN w7 B1 33 b) := X1.out.below b7 (by omega)
      have R7 : Hid (RowN w7 B3 33 (mf b o)) := R6.out.below b7 (by omega)
      have bw7 : Below B1 w w7 := bw6.trans (b7.mono (by omega))
      have sz7 : B3 < w7.heap.size := Nat.lt_of_lt_of_le sz6 b7.size
      clear b7 bw6 X1 R6 sz6
      go_upto_region 13 with (refine wpList_store_mid rfl 26 (.tmp 9) (.tmp 52) rfl w7.heap.size 0 (frL (vm b) 27).toArray rfl rfl (by exact there27 w7 26 (vm b)) (by rw [frL_size]; kernel_rfl) (frL_one _ _) ?_)
      obtain ⟨v, bx, sx⟩ := var27 w7 26 (vm b)
      have F1 : Hid (RowN ((w7.alloc (.cells #[Value.int IntKind.u8 0, Value.int IntKind.u8 0, Value.int IntKind.u8 0, Value.int IntKind.u8 0, Value.int IntKind.u8 0, Value.int IntKind.u8 0, Value.int IntKind.u8 0, Value.int IntKind.u8 0, Value.int IntKind.u8 0, Value.int IntKind.u8 0, Value.int IntKind.u8 0, Value.int IntKind.u8 0, Value.int IntKind.u8 0, Value.int IntKind.u8 0, Value.int IntKind.u8 0, Value.int IntKind.u8 0, Value.int IntKind.u8 0, Value.int IntKind.u8 0, Value.int IntKind.u8 0, Value.int IntKind.u8 0, Value.int IntKind.u8 0, Value.int IntKind.u8 0, Value.int IntKind.u8 0, Value.int IntKind.u8 0, Value.int IntKind.u8 0, Value.int IntKind.u8 0, Value.int IntKind.u8 0] 26)).setCells w7.heap.size 0 (frL (vm b) 27)) w7.heap.size 27 (vm b)) := v
      have bxw8 : Below w7.heap.size w7 ((w7.alloc (.cells #[Value.int IntKind.u8 0, Value.int IntKind.u8 0, Value.int IntKind.u8 0, Value.int IntKind.u8 0, Value.int IntKind.u8 0, Value.int IntKind.u8 0, Value.int IntKind.u8 0, Value.int IntKind.u8 0, Value.int IntKind.u8 0, Value.int IntKind.u8 0, Value.int IntKind.u8 0, Value.int IntKind.u8 0, Value.int IntKind.u8 0, Value.int IntKind.u8 0, Value.int IntKind.u8 0, Value.int IntKind.u8 0, Value.int IntKind.u8 0, Value.int IntKind.u8 0, Value.int IntKind.u8 0, Value.int IntKind.u8 0, Value.int IntKind.u8 0, Value.int IntKind.u8 0, Value.int IntKind.u8 0, Value.int IntKind.u8 0, Value.int IntKind.u8 0, Value.int IntKind.u8 0, Value.int IntKind.u8 0] 26)).setCells w7.heap.size 0 (frL (vm b) 27)) := bx
      have sxw8 : w7.heap.size < ((w7.alloc (.cells #[Value.int IntKind.u8 0, Value.int IntKind.u8 0, Value.int IntKind.u8 0, Value.int IntKind.u8 0, Value.int IntKind.u8 0, Value.int IntKind.u8 0, Value.int IntKind.u8 0, Value.int IntKind.u8 0, Value.int IntKind.u8 0, Value.int IntKind.u8 0, Value.int IntKind.u8 0, Value.int IntKind.u8 0, Value.int IntKind.u8 0, Value.int IntKind.u8 0, Value.int IntKind.u8 0, Value.int IntKind.u8 0, Value.int IntKind.u8 0, Value.int IntKind.u8 0, Value.int IntKind.u8 0, Value.int IntKind.u8 0, Value.int IntKind.u8 0, Value.int IntKind.u8 0, Value.int IntKind.u8 0, Value.int IntKind.u8 0, Value.int IntKind.u8 0, Value.int IntKind.u8 0, Value.int IntKind.u8 0] 26)).setCells w7.heap.size 0 (frL (vm b) 27)).heap.size := sx
      clear v bx sx
      generalize (w7.alloc (.cells #[Value.int IntKind.u8 0, Value.int IntKind.u8 0, Value.int IntKind.u8 0, Value.int IntKind.u8 0, Value.int IntKind.u8 0, Value.int IntKind.u8 0, Value.int IntKind.u8 0, Value.int IntKind.u8 0, Value.int IntKind.u8 0, Value.int IntKind.u8 0, Value.int IntKind.u8 0, Value.int IntKind.u8 0, Value.int IntKind.u8 0, Value.int IntKind.u8 0, Value.int IntKind.u8 0, Value.int IntKind.u8 0, Value.int IntKind.u8 0, Value.int IntKind.u8 0, Value.int IntKind.u8 0, Value.int IntKind.u8 0, Value.int IntKind.u8 0, Value.int IntKind.u8 0, Value.int IntKind.u8 0, Value.int IntKind.u8 0, Value.int IntKind.u8 0, Value.int IntKind.u8 0, Value.int IntKind.u8 0] 26)).setCells w7.heap.size 0 (frL (vm b) 27) = w8 at *
      have X8 : Hid (RowN w8 B1 33 b) := X7.out.below bxw8 (by omega)
      have R8 : Hid (RowN w8 B3 33 (mf b o)) := R7.out.below bxw8 sz7
      have bw8 : Below B1 w w8 := bw7.trans (bxw8.mono (by omega))
      clear bxw8 bw7 X7 R7
      generalize hG1 : w7.heap.size = G1 at *
      go_wp2_with fail
      refine (frames_any B3 0 (mf b o) _ R8.out.burst (mf_bytes HYB.out HYO.out)).mono ?_
      rintro e w9 ⟨rfl, b9⟩
      have X9 : Hid (RowN w9 B1 33 b) := X8.out.below b9 (by omega)
      have F1' : Hid (RowN w9 G1 27 (vm b)) := F1.out.below b9 sxw8
      have bw9 : Below B1 w w9 := bw8.trans (b9.mono (by omega))
      have sz9 : G1 < w9.heap.size := Nat.lt_of_lt_of_le sxw8 b9.size
      clear b9 bw8 X8 R8 F1 sxw8
      go_upto_region 14 with (refine wpList_store_mid rfl 26 (.tmp 10) (.tmp 53) rfl w9.heap.size 0 (frL (vm (mf b o)) 27).toArray rfl rfl (by exact there27 w9 26 (vm (mf b o))) (by rw [frL_size]; kernel_rfl) (frL_one _ _) ?_)
      obtain ⟨v, bx, sx⟩ := var27 w9 26 (vm (mf b o))
      have F2 : Hid (RowN ((w9.alloc (.cells #[Value.int IntKind.u8 0, Value.int IntKind.u8 0, Value.int IntKind.u8 0, Value.int IntKind.u8 0, Value.int IntKind.u8 0, Value.int IntKind.u8 0, Value.int IntKind.u8 0, Value.int IntKind.u8 0, Value.int IntKind.u8 0, Value.int IntKind.u8 0, Value.int IntKind.u8 0, Value.int IntKind.u8 0, Value.int IntKind.u8 0, Value.int IntKind.u8 0, Value.int IntKind.u8 0, Value.int IntKind.u8 0, Value.int IntKind.u8 0, Value.int IntKind.u8 0, Value.int IntKind.u8 0, Value.int IntKind.u8 0, Value.int IntKind.u8 0, Value.int IntKind.u8 0, Value.int IntKind.u8 0, Value.int IntKind.u8 0, Value.int IntKind.u8 0, Value.int IntKind.u8 0, Value.int IntKind.u8 0] 26)).setCells w9.heap.size 0 (frL (vm (mf b o)) 27)) w9.heap.size 27 (vm (mf b o))) := v
      have bxw10 : Below w9.heap.size w9 ((w9.alloc (.cells #[Value.int IntKind.u8 0, Value.int IntKind.u8 0, Value.int IntKind.u8 0, Value.int IntKind.u8 0, Value.int IntKind.u8 0, Value.int IntKind.u8 0, Value.int IntKind.u8 0, Value.int IntKind.u8 0, Value.int IntKind.u8 0, Value.int IntKind.u8 0, Value.int IntKind.u8 0, Value.int IntKind.u8 0, Value.int IntKind.u8 0, Value.int IntKind.u8 0, Value.int IntKind.u8 0, Value.int IntKind.u8 0, Value.int IntKind.u8 0, Value.int IntKind.u8 0, Value.int IntKind.u8 0, Value.int IntKind.u8 0, Value.int IntKind.u8 0, Value.int IntKind.u8 0, Value.int IntKind.u8 0, Value.int IntKind.u8 0, Value.int IntKind.u8 0, Value.int IntKind.u8 0, Value.int IntKind.u8 0] 26)).setCells w9.heap.size 0 (frL (vm (mf b o)) 27)) := bx
      have sxw10 : w9.heap.size < ((w9.alloc (.cells #[Value.int IntKind.u8 0, Value.int IntKind.u8 0, Value.int IntKind.u8 0, Value.int IntKind.u8 0, Value.int IntKind.u8 0, Value.int IntKind.u8 0, Value.int IntKind.u8 0, Value.int IntKind.u8 0, Value.int IntKind.u8 0, Value.int IntKind.u8 0, Value.int IntKind.u8 0, Value.int IntKind.u8 0, Value.int IntKind.u8 0, Value.int IntKind.u8 0, Value.int IntKind.u8 0, Value.int IntKind.u8 0, Value.int IntKind.u8 0, Value.int IntKind.u8 0, Value.int IntKind.u8 0, Value.int IntKind.u8 0, Value.int IntKind.u8 0, Value.int IntKind.u8 0, Value.int IntKind.u8 0, Value.int IntKind.u8 0, Value.int IntKind.u8 0, Value.int IntKind.u8 0, Value.int IntKind.u8 0] 26)).setCells w9.heap.size 0 (frL (vm (mf b o)) 27)).heap.size := sx
      clear v bx sx
      generalize (w9.alloc (.cells #[Value.int IntKind.u8 0, Value.int IntKind.u8 0, Value.int IntKind.u8 0, Value.int IntKind.u8 0, Value.int IntKind.u8 0, Value.int IntKind.u8 0, Value.int IntKind.u8 0, Value.int IntKind.u8 0, Value.int IntKind.u8 0, Value.int IntKind.u8 0, Value.int IntKind.u8 0, Value.int IntKind.u8 0, Value.int IntKind.u8 0, Value.int IntKind.u8 0, Value.int IntKind.u8 0, Value.int IntKind.u8 0, Value.int IntKind.u8 0, Value.int IntKind.u8 0, Value.int IntKind.u8 0, Value.int IntKind.u8 0, Value.int IntKind.u8 0, Value.int IntKind.u8 0, Value.int IntKind.u8 0, Value.int IntKind.u8 0, Value.int IntKind.u8 0, Value.int IntKind.u8 0, Value.int IntKind.u8 0] 26)).setCells w9.heap.size 0 (frL (vm (mf b o)) 27) = w10 at *
      have X10 : Hid (RowN w10 B1 33 b) := X9.out.below bxw10 (by omega)
      have F1 : Hid (RowN w10 G1 27 (vm b)) := F1'.out.below bxw10 (by omega)
      have bw10 : Below B1 w w10 := bw9.trans (bxw10.mono (by omega))
      clear bxw10 bw9 X9 F1'
      generalize hG2 : w9.heap.size = G2 at *
      go_upto_region 15 with (first
        | (refine wpList_load_mid rfl 23 (.tmp 5) rfl B1 0 rfl (frL b 33) _ X10.out.range Try.underlying23 rfl (by rw [frL_len]; kernel_rfl) ?_)
        | (go_at_call 6; refine (model_any b _ HYB.out).mono ?_; rintro e w11 ⟨rfl, b11⟩)
        | (refine wpList_store_mid rfl 28 (.tmp 11) (.tmp 55) rfl _ 0 (frL (vm b) 27).toArray rfl rfl (by exact there27 _ 28 (vm b)) (by rw [frL_size]; kernel_rfl) (frL_one _ _) ?_))
      obtain ⟨v, bx, sx⟩ := var27 w11 28 (vm b)
      have F3 : Hid (RowN ((w11.alloc (.cells #[Value.int IntKind.u8 0, Value.int IntKind.u8 0, Value.int IntKind.u8 0, Value.int IntKind.u8 0, Value.int IntKind.u8 0, Value.int IntKind.u8 0, Value.int IntKind.u8 0, Value.int IntKind.u8 0, Value.int IntKind.u8 0, Value.int IntKind.u8 0, Value.int IntKind.u8 0, Value.int IntKind.u8 0, Value.int IntKind.u8 0, Value.int IntKind.u8 0, Value.int IntKind.u8 0, Value.int IntKind.u8 0, Value.int IntKind.u8 0, Value.int IntKind.u8 0, Value.int IntKind.u8 0, Value.int IntKind.u8 0, Value.int IntKind.u8 0, Value.int IntKind.u8 0, Value.int IntKind.u8 0, Value.int IntKind.u8 0, Value.int IntKind.u8 0, Value.int IntKind.u8 0, Value.int IntKind.u8 0] 28)).setCells w11.heap.size 0 (frL (vm b) 27)) w11.heap.size 27 (vm b)) := v
      have bx12 : Below w11.heap.size w11 ((w11.alloc (.cells #[Value.int IntKind.u8 0, Value.int IntKind.u8 0, Value.int IntKind.u8 0, Value.int IntKind.u8 0, Value.int IntKind.u8 0, Value.int IntKind.u8 0, Value.int IntKind.u8 0, Value.int IntKind.u8 0, Value.int IntKind.u8 0, Value.int IntKind.u8 0, Value.int IntKind.u8 0, Value.int IntKind.u8 0, Value.int IntKind.u8 0, Value.int IntKind.u8 0, Value.int IntKind.u8 0, Value.int IntKind.u8 0, Value.int IntKind.u8 0, Value.int IntKind.u8 0, Value.int IntKind.u8 0, Value.int IntKind.u8 0, Value.int IntKind.u8 0, Value.int IntKind.u8 0, Value.int IntKind.u8 0, Value.int IntKind.u8 0, Value.int IntKind.u8 0, Value.int IntKind.u8 0, Value.int IntKind.u8 0] 28)).setCells w11.heap.size 0 (frL (vm b) 27)) := bx
      clear v bx sx
      generalize (w11.alloc (.cells #[Value.int IntKind.u8 0, Value.int IntKind.u8 0, Value.int IntKind.u8 0, Value.int IntKind.u8 0, Value.int IntKind.u8 0, Value.int IntKind.u8 0, Value.int IntKind.u8 0, Value.int IntKind.u8 0, Value.int IntKind.u8 0, Value.int IntKind.u8 0, Value.int IntKind.u8 0, Value.int IntKind.u8 0, Value.int IntKind.u8 0, Value.int IntKind.u8 0, Value.int IntKind.u8 0, Value.int IntKind.u8 0, Value.int IntKind.u8 0, Value.int IntKind.u8 0, Value.int IntKind.u8 0, Value.int IntKind.u8 0, Value.int IntKind.u8 0, Value.int IntKind.u8 0, Value.int IntKind.u8 0, Value.int IntKind.u8 0, Value.int IntKind.u8 0, Value.int IntKind.u8 0, Value.int IntKind.u8 0] 28)).setCells w11.heap.size 0 (frL (vm b) 27) = w12 at *
      have b12 := b11.trans (bx12.mono b11.size)
      have F1' : Hid (RowN w12 G1 27 (vm b)) := F1.out.below b12 (by omega)
      have F2' : Hid (RowN w12 G2 27 (vm b)) := (F2.out.below b12 sxw10).cong fun j hj => vm_mf b o j hj
      have bw12 : Below w.heap.size w w12 := by rw [HB1.out]; exact bw10.trans (b12.mono (by omega))
      clear b11 bx12 b12 F1 F2 bw10 X10
      generalize w11.heap.size = G3 at *
      clear hG1 hG2
      go_wp2_with fail
      go_loopw [12] (fun i wr => ∃ f n : Nat, i = .int .i64 f ∧ f ≤ 3 ∧ Hid (wr = w12.drewN n)) (fun i _ => 3 - (intOf i).toNat)
      case atStart => exact ⟨0, 0, rfl, by omega, rfl⟩
      case round =>
        rename_i wo
        obtain ⟨f, n, rfl, hf, hwo⟩ := hrel
        by_cases hft : f < 3
        · go_wp2_with fail
          go_loopw [13] (fun i wr => ∃ k n : Nat, i = .int .i64 k ∧ k ≤ 9 ∧ Hid (wr = w12.drewN n)) (fun i _ => 9 - (intOf i).toNat)
          case atStart => exact ⟨0, n, rfl, by omega, hwo⟩
          case round =>
            obtain ⟨k, n2, rfl, hk, hwi⟩ := hrel
            by_cases hkt : k < 9
            · have hcw : ∀ a, wr.cell? a = w12.cell? a := fun a => by rw [hwi.out]; rfl
              have c1 := (F1'.out (f * 9 + k) (by omega)).1
              have c2 := (F2'.out (f * 9 + k) (by omega)).1
              have c3 := (F3.out (f * 9 + k) (by omega)).1
              rw [← hcw] at c1 c2 c3
              clear hcw
              generalize vm b (f * 9 + k) = V at *
              go_wp2_with fail
              go_quiet (fail)
              go_wp2_with fail
              go_quiet (fail)
              go_wp2
              go_roundw
              case rel => exact ⟨k + 1, _, by go_num, by omega, by show _ = _; rw [hwi.out, World.drewN_drewN]⟩
              case measure => simp [intOf]; omega
            · go_wp2
              go_roundw
              case rel => exact ⟨f + 1, n2, by go_num, by omega, hwi⟩
              case measure => simp [intOf]; omega
        · go_wp2
          go_ret
          exact ⟨rfl, by rw [hwo.out]; exact belowN bw12 _⟩
end Go.Proofs.Qxb6627477a
