import Derived.Test.Qxb6627477aPop
namespace Go.Proofs.Qxb6627477a
open Go.RowKit
set_option linter.unusedVariables false

def wf (x : Nat → Nat) (n : Nat) : Nat := S (fun m => pc (vm x m)) n
def wa (x : Nat → Nat) (n : Nat) : Nat := S (fun j => pc (x j)) n
def wm (x : Nat → Nat) (n : Nat) : Nat := S (fun j => pc (x (14 + j))) n
theorem wf_le (x : Nat → Nat) (n : Nat) : wf x n ≤ 8 * n := S_le _ (fun _ => pc_le _) n
theorem wa_le (x : Nat → Nat) (n : Nat) : wa x n ≤ 8 * n := S_le _ (fun _ => pc_le _) n
theorem wm_le (x : Nat → Nat) (n : Nat) : wm x n ≤ 8 * n := S_le _ (fun _ => pc_le _) n

set_option maxHeartbeats 4000000 in
set_option maxRecDepth 1000000 in
theorem walk4 (bb off ob oo : Nat) (x y : Nat → Nat) (w : World) (hb : Burst w bb off x) (ho : Burst w ob oo y) (hyb : Bytes x) (hyo : Bytes y) :
    Calls Try.prog 4 #[.pointer (some ⟨bb, off, none⟩), .pointer (some ⟨ob, oo, none⟩)] w fun e w' => e = .returned (.bool true) ∧ Below w.heap.size w w' := by
  have HB : Hid (Burst w bb off x) := hb
  have HO : Hid (Burst w ob oo y) := ho
  have HYB : Hid (Bytes x) := hyb
  have HYO : Hid (Bytes y) := hyo
  clear hb ho hyb hyo
  go_enter Try.func4, Try.ntmps4
  go_upto_region 4 with (first
    | (refine wpList_load_mid rfl 23 (.tmp 26) rfl bb off rfl (frL x 33) _ HB.out.range Try.underlying23 rfl (by rw [frL_len]; kernel_rfl) ?_)
    | (refine wpList_store_mid rfl 23 (.tmp 5) (.tmp 27) rfl w.heap.size 0 (frL x 33).toArray rfl rfl (by exact there33 w 23 x) (by rw [frL_size]; kernel_rfl) (frL_one _ _) ?_))
  obtain ⟨v, bx, sx⟩ := var33 w 23 x
  have Vw1 : Hid (RowN ((w.alloc (.cells #[Value.int IntKind.u8 0, Value.int IntKind.u8 0, Value.int IntKind.u8 0, Value.int IntKind.u8 0, Value.int IntKind.u8 0, Value.int IntKind.u8 0, Value.int IntKind.u8 0, Value.int IntKind.u8 0, Value.int IntKind.u8 0, Value.int IntKind.u8 0, Value.int IntKind.u8 0, Value.int IntKind.u8 0, Value.int IntKind.u8 0, Value.int IntKind.u8 0, Value.int IntKind.u8 0, Value.int IntKind.u8 0, Value.int IntKind.u8 0, Value.int IntKind.u8 0, Value.int IntKind.u8 0, Value.int IntKind.u8 0, Value.int IntKind.u8 0, Value.int IntKind.u8 0, Value.int IntKind.u8 0, Value.int IntKind.u8 0, Value.int IntKind.u8 0, Value.int IntKind.u8 0, Value.int IntKind.u8 0, Value.int IntKind.u8 0, Value.int IntKind.u8 0, Value.int IntKind.u8 0, Value.int IntKind.u8 0, Value.int IntKind.u8 0, Value.int IntKind.u8 0] 23)).setCells w.heap.size 0 (frL x 33)) w.heap.size 33 x) := v
  have blw1 : Below w.heap.size w ((w.alloc (.cells #[Value.int IntKind.u8 0, Value.int IntKind.u8 0, Value.int IntKind.u8 0, Value.int IntKind.u8 0, Value.int IntKind.u8 0, Value.int IntKind.u8 0, Value.int IntKind.u8 0, Value.int IntKind.u8 0, Value.int IntKind.u8 0, Value.int IntKind.u8 0, Value.int IntKind.u8 0, Value.int IntKind.u8 0, Value.int IntKind.u8 0, Value.int IntKind.u8 0, Value.int IntKind.u8 0, Value.int IntKind.u8 0, Value.int IntKind.u8 0, Value.int IntKind.u8 0, Value.int IntKind.u8 0, Value.int IntKind.u8 0, Value.int IntKind.u8 0, Value.int IntKind.u8 0, Value.int IntKind.u8 0, Value.int IntKind.u8 0, Value.int IntKind.u8 0, Value.int IntKind.u8 0, Value.int IntKind.u8 0, Value.int IntKind.u8 0, Value.int IntKind.u8 0, Value.int IntKind.u8 0, Value.int IntKind.u8 0, Value.int IntKind.u8 0, Value.int IntKind.u8 0] 23)).setCells w.heap.size 0 (frL x 33)) := bx
  have szw1 : w.heap.size < ((w.alloc (.cells #[Value.int IntKind.u8 0, Value.int IntKind.u8 0, Value.int IntKind.u8 0, Value.int IntKind.u8 0, Value.int IntKind.u8 0, Value.int IntKind.u8 0, Value.int IntKind.u8 0, Value.int IntKind.u8 0, Value.int IntKind.u8 0, Value.int IntKind.u8 0, Value.int IntKind.u8 0, Value.int IntKind.u8 0, Value.int IntKind.u8 0, Value.int IntKind.u8 0, Value.int IntKind.u8 0, Value.int IntKind.u8 0, Value.int IntKind.u8 0, Value.int IntKind.u8 0, Value.int IntKind.u8 0, Value.int IntKind.u8 0, Value.int IntKind.u8 0, Value.int IntKind.u8 0, Value.int IntKind.u8 0, Value.int IntKind.u8 0, Value.int IntKind.u8 0, Value.int IntKind.u8 0, Value.int IntKind.u8 0, Value.int IntKind.u8 0, Value.int IntKind.u8 0, Value.int IntKind.u8 0, Value.int IntKind.u8 0, Value.int IntKind.u8 0, Value.int IntKind.u8 0] 23)).setCells w.heap.size 0 (frL x 33)).heap.size := sx
  clear v bx sx
  generalize (w.alloc (.cells #[Value.int IntKind.u8 0, Value.int IntKind.u8 0, Value.int IntKind.u8 0, Value.int IntKind.u8 0, Value.int IntKind.u8 0, Value.int IntKind.u8 0, Value.int IntKind.u8 0, Value.int IntKind.u8 0, Value.int IntKind.u8 0, Value.int IntKind.u8 0, Value.int IntKind.u8 0, Value.int IntKind.u8 0, Value.int IntKind.u8 0, Value.int IntKind.u8 0, Value.int IntKind.u8 0, Value.int IntKind.u8 0, Value.int IntKind.u8 0, Value.int IntKind.u8 0, Value.int IntKind.u8 0, Value.int IntKind.u8 0, Value.int IntKind.u8 0, Value.int IntKind.u8 0, Value.int IntKind.u8 0, Value.int IntKind.u8 0, Value.int IntKind.u8 0, Value.int IntKind.u8 0, Value.int IntKind.u8 0, Value.int IntKind.u8 0, Value.int IntKind.u8 0, Value.int IntKind.u8 0, Value.int IntKind.u8 0, Value.int IntKind.u8 0, Value.int IntKind.u8 0] 23)).setCells w.heap.size 0 (frL x 33) = w1 at *
  have HO1 : Hid (Burst w1 ob oo y) := HO.out.below blw1
  clear HB HO
  generalize hB1 : w.heap.size = B1 at *
  go_upto_region 5 with (first
    | (refine wpList_load_mid rfl 23 (.tmp 29) rfl ob oo rfl (frL y 33) _ HO1.out.range Try.underlying23 rfl (by rw [frL_len]; kernel_rfl) ?_)
    | (refine wpList_store_mid rfl 23 (.tmp 6) (.tmp 30) rfl w1.heap.size 0 (frL y 33).toArray rfl rfl (by exact there33 w1 23 y) (by rw [frL_size]; kernel_rfl) (frL_one _ _) ?_))
  obtain ⟨v, bx, sx⟩ := var33 w1 23 y
  have Vw2 : Hid (RowN ((w1.alloc (.cells #[Value.int IntKind.u8 0, Value.int IntKind.u8 0, Value.int IntKind.u8 0, Value.int IntKind.u8 0, Value.int IntKind.u8 0, Value.int IntKind.u8 0, Value.int IntKind.u8 0, Value.int IntKind.u8 0, Value.int IntKind.u8 0, Value.int IntKind.u8 0, Value.int IntKind.u8 0, Value.int IntKind.u8 0, Value.int IntKind.u8 0, Value.int IntKind.u8 0, Value.int IntKind.u8 0, Value.int IntKind.u8 0, Value.int IntKind.u8 0, Value.int IntKind.u8 0, Value.int IntKind.u8 0, Value.int IntKind.u8 0, Value.int IntKind.u8 0, Value.int IntKind.u8 0, Value.int IntKind.u8 0, Value.int IntKind.u8 0, Value.int IntKind.u8 0, Value.int IntKind.u8 0, Value.int IntKind.u8 0, Value.int IntKind.u8 0, Value.int IntKind.u8 0, Value.int IntKind.u8 0, Value.int IntKind.u8 0, Value.int IntKind.u8 0, Value.int IntKind.u8 0] 23)).setCells w1.heap.size 0 (frL y 33)) w1.heap.size 33 y) := v
  have blw2 : Below w1.heap.size w1 ((w1.alloc (.cells #[Value.int IntKind.u8 0, Value.int IntKind.u8 0, Value.int IntKind.u8 0, Value.int IntKind.u8 0, Value.int IntKind.u8 0, Value.int IntKind.u8 0, Value.int IntKind.u8 0, Value.int IntKind.u8 0, Value.int IntKind.u8 0, Value.int IntKind.u8 0, Value.int IntKind.u8 0, Value.int IntKind.u8 0, Value.int IntKind.u8 0, Value.int IntKind.u8 0, Value.int IntKind.u8 0, Value.int IntKind.u8 0, Value.int IntKind.u8 0, Value.int IntKind.u8 0, Value.int IntKind.u8 0, Value.int IntKind.u8 0, Value.int IntKind.u8 0, Value.int IntKind.u8 0, Value.int IntKind.u8 0, Value.int IntKind.u8 0, Value.int IntKind.u8 0, Value.int IntKind.u8 0, Value.int IntKind.u8 0, Value.int IntKind.u8 0, Value.int IntKind.u8 0, Value.int IntKind.u8 0, Value.int IntKind.u8 0, Value.int IntKind.u8 0, Value.int IntKind.u8 0] 23)).setCells w1.heap.size 0 (frL y 33)) := bx
  have szw2 : w1.heap.size < ((w1.alloc (.cells #[Value.int IntKind.u8 0, Value.int IntKind.u8 0, Value.int IntKind.u8 0, Value.int IntKind.u8 0, Value.int IntKind.u8 0, Value.int IntKind.u8 0, Value.int IntKind.u8 0, Value.int IntKind.u8 0, Value.int IntKind.u8 0, Value.int IntKind.u8 0, Value.int IntKind.u8 0, Value.int IntKind.u8 0, Value.int IntKind.u8 0, Value.int IntKind.u8 0, Value.int IntKind.u8 0, Value.int IntKind.u8 0, Value.int IntKind.u8 0, Value.int IntKind.u8 0, Value.int IntKind.u8 0, Value.int IntKind.u8 0, Value.int IntKind.u8 0, Value.int IntKind.u8 0, Value.int IntKind.u8 0, Value.int IntKind.u8 0, Value.int IntKind.u8 0, Value.int IntKind.u8 0, Value.int IntKind.u8 0, Value.int IntKind.u8 0, Value.int IntKind.u8 0, Value.int IntKind.u8 0, Value.int IntKind.u8 0, Value.int IntKind.u8 0, Value.int IntKind.u8 0] 23)).setCells w1.heap.size 0 (frL y 33)).heap.size := sx
  clear v bx sx
  generalize (w1.alloc (.cells #[Value.int IntKind.u8 0, Value.int IntKind.u8 0, Value.int IntKind.u8 0, Value.int IntKind.u8 0, Value.int IntKind.u8 0, Value.int IntKind.u8 0, Value.int IntKind.u8 0, Value.int IntKind.u8 0, Value.int IntKind.u8 0, Value.int IntKind.u8 0, Value.int IntKind.u8 0, Value.int IntKind.u8 0, Value.int IntKind.u8 0, Value.int IntKind.u8 0, Value.int IntKind.u8 0, Value.int IntKind.u8 0, Value.int IntKind.u8 0, Value.int IntKind.u8 0, Value.int IntKind.u8 0, Value.int IntKind.u8 0, Value.int IntKind.u8 0, Value.int IntKind.u8 0, Value.int IntKind.u8 0, Value.int IntKind.u8 0, Value.int IntKind.u8 0, Value.int IntKind.u8 0, Value.int IntKind.u8 0, Value.int IntKind.u8 0, Value.int IntKind.u8 0, Value.int IntKind.u8 0, Value.int IntKind.u8 0, Value.int IntKind.u8 0, Value.int IntKind.u8 0] 23)).setCells w1.heap.size 0 (frL y 33) = w2 at *
  have X2 : Hid (RowN w2 B1 33 x) := Vw1.out.below blw2 szw1
  have bw2 : Below B1 w w2 := blw1.trans (blw2.mono (by omega))
  clear Vw1 blw1 blw2 HO1
  generalize hB2 : w1.heap.size = B2 at *
  go_wp2_with fail
  have R0 : Hid (RowN (w2.alloc (.cells #[Value.int IntKind.u8 0, Value.int IntKind.u8 0, Value.int IntKind.u8 0, Value.int IntKind.u8 0, Value.int IntKind.u8 0, Value.int IntKind.u8 0, Value.int IntKind.u8 0, Value.int IntKind.u8 0, Value.int IntKind.u8 0, Value.int IntKind.u8 0, Value.int IntKind.u8 0, Value.int IntKind.u8 0, Value.int IntKind.u8 0, Value.int IntKind.u8 0, Value.int IntKind.u8 0, Value.int IntKind.u8 0, Value.int IntKind.u8 0, Value.int IntKind.u8 0, Value.int IntKind.u8 0, Value.int IntKind.u8 0, Value.int IntKind.u8 0, Value.int IntKind.u8 0, Value.int IntKind.u8 0, Value.int IntKind.u8 0, Value.int IntKind.u8 0, Value.int IntKind.u8 0, Value.int IntKind.u8 0, Value.int IntKind.u8 0, Value.int IntKind.u8 0, Value.int IntKind.u8 0, Value.int IntKind.u8 0, Value.int IntKind.u8 0, Value.int IntKind.u8 0] 23)) w2.heap.size 33 (zx x y 0)) := (new33 w2 23).cong fun j hj => rfl
  have bl3 : Below w2.heap.size w2 (w2.alloc (.cells #[Value.int IntKind.u8 0, Value.int IntKind.u8 0, Value.int IntKind.u8 0, Value.int IntKind.u8 0, Value.int IntKind.u8 0, Value.int IntKind.u8 0, Value.int IntKind.u8 0, Value.int IntKind.u8 0, Value.int IntKind.u8 0, Value.int IntKind.u8 0, Value.int IntKind.u8 0, Value.int IntKind.u8 0, Value.int IntKind.u8 0, Value.int IntKind.u8 0, Value.int IntKind.u8 0, Value.int IntKind.u8 0, Value.int IntKind.u8 0, Value.int IntKind.u8 0, Value.int IntKind.u8 0, Value.int IntKind.u8 0, Value.int IntKind.u8 0, Value.int IntKind.u8 0, Value.int IntKind.u8 0, Value.int IntKind.u8 0, Value.int IntKind.u8 0, Value.int IntKind.u8 0, Value.int IntKind.u8 0, Value.int IntKind.u8 0, Value.int IntKind.u8 0, Value.int IntKind.u8 0, Value.int IntKind.u8 0, Value.int IntKind.u8 0, Value.int IntKind.u8 0] 23)) := (Below.refl _ _).alloc (Nat.le_refl _) _
  have sz3 : w2.heap.size < (w2.alloc (.cells #[Value.int IntKind.u8 0, Value.int IntKind.u8 0, Value.int IntKind.u8 0, Value.int IntKind.u8 0, Value.int IntKind.u8 0, Value.int IntKind.u8 0, Value.int IntKind.u8 0, Value.int IntKind.u8 0, Value.int IntKind.u8 0, Value.int IntKind.u8 0, Value.int IntKind.u8 0, Value.int IntKind.u8 0, Value.int IntKind.u8 0, Value.int IntKind.u8 0, Value.int IntKind.u8 0, Value.int IntKind.u8 0, Value.int IntKind.u8 0, Value.int IntKind.u8 0, Value.int IntKind.u8 0, Value.int IntKind.u8 0, Value.int IntKind.u8 0, Value.int IntKind.u8 0, Value.int IntKind.u8 0, Value.int IntKind.u8 0, Value.int IntKind.u8 0, Value.int IntKind.u8 0, Value.int IntKind.u8 0, Value.int IntKind.u8 0, Value.int IntKind.u8 0, Value.int IntKind.u8 0, Value.int IntKind.u8 0, Value.int IntKind.u8 0, Value.int IntKind.u8 0] 23)).heap.size := by simp
  generalize w2.alloc (.cells #[Value.int IntKind.u8 0, Value.int IntKind.u8 0, Value.int IntKind.u8 0, Value.int IntKind.u8 0, Value.int IntKind.u8 0, Value.int IntKind.u8 0, Value.int IntKind.u8 0, Value.int IntKind.u8 0, Value.int IntKind.u8 0, Value.int IntKind.u8 0, Value.int IntKind.u8 0, Value.int IntKind.u8 0, Value.int IntKind.u8 0, Value.int IntKind.u8 0, Value.int IntKind.u8 0, Value.int IntKind.u8 0, Value.int IntKind.u8 0, Value.int IntKind.u8 0, Value.int IntKind.u8 0, Value.int IntKind.u8 0, Value.int IntKind.u8 0, Value.int IntKind.u8 0, Value.int IntKind.u8 0, Value.int IntKind.u8 0, Value.int IntKind.u8 0, Value.int IntKind.u8 0, Value.int IntKind.u8 0, Value.int IntKind.u8 0, Value.int IntKind.u8 0, Value.int IntKind.u8 0, Value.int IntKind.u8 0, Value.int IntKind.u8 0, Value.int IntKind.u8 0] 23) = w3 at *
  have X3 : Hid (RowN w3 B1 33 x) := X2.out.below bl3 (by omega)
  have Y3 : Hid (RowN w3 B2 33 y) := Vw2.out.below bl3 (by omega)
  have bw3 : Below B1 w w3 := bw2.trans (bl3.mono (by omega))
  clear X2 Vw2 bl3 bw2
  generalize hB3 : w2.heap.size = B3 at *
  have hne1 : B1 < B2 := by omega
  have hne2 : B2 < B3 := by omega
  have HB1 : Hid (w.heap.size = B1) := hB1
  clear hB1 hB2 hB3 szw1 szw2
  go_loopw [8] (fun i wr => ∃ k : Nat, i = .int .i64 k ∧ k ≤ 33 ∧ Hid (RowN wr B3 33 (zx x y k)) ∧ Below B3 w3 wr) (fun i _ => 33 - (intOf i).toNat)
  case atStart => exact ⟨0, rfl, by omega, R0, Below.refl _ _⟩
  case round =>
    obtain ⟨k, rfl, hk, hR, hB⟩ := hrel
    by_cases hlt : k < 33
    · obtain ⟨p1, _⟩ := (X3.out.below hB (by omega)) k hlt
      obtain ⟨p2, _⟩ := (Y3.out.below hB hne2) k hlt
      obtain ⟨p3, p4⟩ := hR.out k hlt
      have HX := show Hid _ from u8_xor_nat (x k) (y k) (HYB.out k hlt) (HYO.out k hlt)
      go_wp2_with fail
      go_region
      go_wp2
      go_roundw
      case rel => exact ⟨k + 1, by go_num, by omega, by rw [HX.out]; exact (hR.out.upd hlt).cong (zx_step x y k), (hB.setCell (p := ⟨B3, k, none⟩) (Nat.le_refl _) _).drew⟩
      case measure => simp [intOf]; omega
    · have e : k = 33 := by omega
      subst e
      clear hk hlt
      have Z6 : Hid (RowN wr B3 33 (fun j => x j ^^^ y j)) := hR.out.cong fun j hj => zx_full x y j hj
      have X6 : Hid (RowN wr B1 33 x) := X3.out.below hB (by omega)
      have Y6 : Hid (RowN wr B2 33 y) := Y3.out.below hB hne2
      have bw6 : Below B1 w wr := bw3.trans (hB.mono (by omega))
      have sz6 : B3 < wr.heap.size := Nat.lt_of_lt_of_le sz3 hB.size
      clear hR hB X3 Y3 bw3 sz3 R0
      go_wp2_with fail
      refine (frames_any B1 0 x _ X6.out.burst HYB.out).mono ?_
      rintro e w7 ⟨rfl, b7⟩
      have X7 : Hid (RowN w7 B1 33 x) := X6.out.below b7 (by omega)
      have Y7 : Hid (RowN w7 B2 33 y) := Y6.out.below b7 (by omega)
      have Z7 : Hid (RowN w7 B3 33 (fun j => x j ^^^ y j)) := Z6.out.below b7 sz6
      have bw7 : Below B1 w w7 := bw6.trans (b7.mono (by omega))
      have sz7 : B3 < w7.heap.size := Nat.lt_of_lt_of_le sz6 b7.size
      clear b7 bw6 X6 Y6 Z6 sz6
      go_upto_region 11 with (refine wpList_store_mid rfl 26 (.tmp 9) (.tmp 44) rfl w7.heap.size 0 (frL (vm x) 27).toArray rfl rfl (by exact there27 w7 26 (vm x)) (by rw [frL_size]; kernel_rfl) (frL_one _ _) ?_)
      obtain ⟨v, bx, sx⟩ := var27 w7 26 (vm x)
      have F1 : Hid (RowN ((w7.alloc (.cells #[Value.int IntKind.u8 0, Value.int IntKind.u8 0, Value.int IntKind.u8 0, Value.int IntKind.u8 0, Value.int IntKind.u8 0, Value.int IntKind.u8 0, Value.int IntKind.u8 0, Value.int IntKind.u8 0, Value.int IntKind.u8 0, Value.int IntKind.u8 0, Value.int IntKind.u8 0, Value.int IntKind.u8 0, Value.int IntKind.u8 0, Value.int IntKind.u8 0, Value.int IntKind.u8 0, Value.int IntKind.u8 0, Value.int IntKind.u8 0, Value.int IntKind.u8 0, Value.int IntKind.u8 0, Value.int IntKind.u8 0, Value.int IntKind.u8 0, Value.int IntKind.u8 0, Value.int IntKind.u8 0, Value.int IntKind.u8 0, Value.int IntKind.u8 0, Value.int IntKind.u8 0, Value.int IntKind.u8 0] 26)).setCells w7.heap.size 0 (frL (vm x) 27)) w7.heap.size 27 (vm x)) := v
      have blw8 : Below w7.heap.size w7 ((w7.alloc (.cells #[Value.int IntKind.u8 0, Value.int IntKind.u8 0, Value.int IntKind.u8 0, Value.int IntKind.u8 0, Value.int IntKind.u8 0, Value.int IntKind.u8 0, Value.int IntKind.u8 0, Value.int IntKind.u8 0, Value.int IntKind.u8 0, Value.int IntKind.u8 0, Value.int IntKind.u8 0, Value.int IntKind.u8 0, Value.int IntKind.u8 0, Value.int IntKind.u8 0, Value.int IntKind.u8 0, Value.int IntKind.u8 0, Value.int IntKind.u8 0, Value.int IntKind.u8 0, Value.int IntKind.u8 0, Value.int IntKind.u8 0, Value.int IntKind.u8 0, Value.int IntKind.u8 0, Value.int IntKind.u8 0, Value.int IntKind.u8 0, Value.int IntKind.u8 0, Value.int IntKind.u8 0, Value.int IntKind.u8 0] 26)).setCells w7.heap.size 0 (frL (vm x) 27)) := bx
      have szw8 : w7.heap.size < ((w7.alloc (.cells #[Value.int IntKind.u8 0, Value.int IntKind.u8 0, Value.int IntKind.u8 0, Value.int IntKind.u8 0, Value.int IntKind.u8 0, Value.int IntKind.u8 0, Value.int IntKind.u8 0, Value.int IntKind.u8 0, Value.int IntKind.u8 0, Value.int IntKind.u8 0, Value.int IntKind.u8 0, Value.int IntKind.u8 0, Value.int IntKind.u8 0, Value.int IntKind.u8 0, Value.int IntKind.u8 0, Value.int IntKind.u8 0, Value.int IntKind.u8 0, Value.int IntKind.u8 0, Value.int IntKind.u8 0, Value.int IntKind.u8 0, Value.int IntKind.u8 0, Value.int IntKind.u8 0, Value.int IntKind.u8 0, Value.int IntKind.u8 0, Value.int IntKind.u8 0, Value.int IntKind.u8 0, Value.int IntKind.u8 0] 26)).setCells w7.heap.size 0 (frL (vm x) 27)).heap.size := sx
      clear v bx sx
      generalize (w7.alloc (.cells #[Value.int IntKind.u8 0, Value.int IntKind.u8 0, Value.int IntKind.u8 0, Value.int IntKind.u8 0, Value.int IntKind.u8 0, Value.int IntKind.u8 0, Value.int IntKind.u8 0, Value.int IntKind.u8 0, Value.int IntKind.u8 0, Value.int IntKind.u8 0, Value.int IntKind.u8 0, Value.int IntKind.u8 0, Value.int IntKind.u8 0, Value.int IntKind.u8 0, Value.int IntKind.u8 0, Value.int IntKind.u8 0, Value.int IntKind.u8 0, Value.int IntKind.u8 0, Value.int IntKind.u8 0, Value.int IntKind.u8 0, Value.int IntKind.u8 0, Value.int IntKind.u8 0, Value.int IntKind.u8 0, Value.int IntKind.u8 0, Value.int IntKind.u8 0, Value.int IntKind.u8 0, Value.int IntKind.u8 0] 26)).setCells w7.heap.size 0 (frL (vm x) 27) = w8 at *
      have X8 : Hid (RowN w8 B1 33 x) := X7.out.below blw8 (by omega)
      have Y8 : Hid (RowN w8 B2 33 y) := Y7.out.below blw8 (by omega)
      have Z8 : Hid (RowN w8 B3 33 (fun j => x j ^^^ y j)) := Z7.out.below blw8 sz7
      have bw8 : Below B1 w w8 := bw7.trans (blw8.mono (by omega))
      clear blw8 bw7 X7 Y7 Z7
      generalize hG1 : w7.heap.size = G1 at *
      go_wp2_with fail
      refine (frames_any B2 0 y _ Y8.out.burst HYO.out).mono ?_
      rintro e w9 ⟨rfl, b9⟩
      have X9 : Hid (RowN w9 B1 33 x) := X8.out.below b9 (by omega)
      have Z9 : Hid (RowN w9 B3 33 (fun j => x j ^^^ y j)) := Z8.out.below b9 (by omega)
      have F1a : Hid (RowN w9 G1 27 (vm x)) := F1.out.below b9 szw8
      have bw9 : Below B1 w w9 := bw8.trans (b9.mono (by omega))
      have sz9 : G1 < w9.heap.size := Nat.lt_of_lt_of_le szw8 b9.size
      clear b9 bw8 X8 Y8 Z8 F1 szw8
      go_upto_region 12 with (refine wpList_store_mid rfl 26 (.tmp 10) (.tmp 45) rfl w9.heap.size 0 (frL (vm y) 27).toArray rfl rfl (by exact there27 w9 26 (vm y)) (by rw [frL_size]; kernel_rfl) (frL_one _ _) ?_)
      obtain ⟨v, bx, sx⟩ := var27 w9 26 (vm y)
      have F2 : Hid (RowN ((w9.alloc (.cells #[Value.int IntKind.u8 0, Value.int IntKind.u8 0, Value.int IntKind.u8 0, Value.int IntKind.u8 0, Value.int IntKind.u8 0, Value.int IntKind.u8 0, Value.int IntKind.u8 0, Value.int IntKind.u8 0, Value.int IntKind.u8 0, Value.int IntKind.u8 0, Value.int IntKind.u8 0, Value.int IntKind.u8 0, Value.int IntKind.u8 0, Value.int IntKind.u8 0, Value.int IntKind.u8 0, Value.int IntKind.u8 0, Value.int IntKind.u8 0, Value.int IntKind.u8 0, Value.int IntKind.u8 0, Value.int IntKind.u8 0, Value.int IntKind.u8 0, Value.int IntKind.u8 0, Value.int IntKind.u8 0, Value.int IntKind.u8 0, Value.int IntKind.u8 0, Value.int IntKind.u8 0, Value.int IntKind.u8 0] 26)).setCells w9.heap.size 0 (frL (vm y) 27)) w9.heap.size 27 (vm y)) := v
      have blw10 : Below w9.heap.size w9 ((w9.alloc (.cells #[Value.int IntKind.u8 0, Value.int IntKind.u8 0, Value.int IntKind.u8 0, Value.int IntKind.u8 0, Value.int IntKind.u8 0, Value.int IntKind.u8 0, Value.int IntKind.u8 0, Value.int IntKind.u8 0, Value.int IntKind.u8 0, Value.int IntKind.u8 0, Value.int IntKind.u8 0, Value.int IntKind.u8 0, Value.int IntKind.u8 0, Value.int IntKind.u8 0, Value.int IntKind.u8 0, Value.int IntKind.u8 0, Value.int IntKind.u8 0, Value.int IntKind.u8 0, Value.int IntKind.u8 0, Value.int IntKind.u8 0, Value.int IntKind.u8 0, Value.int IntKind.u8 0, Value.int IntKind.u8 0, Value.int IntKind.u8 0, Value.int IntKind.u8 0, Value.int IntKind.u8 0, Value.int IntKind.u8 0] 26)).setCells w9.heap.size 0 (frL (vm y) 27)) := bx
      have szw10 : w9.heap.size < ((w9.alloc (.cells #[Value.int IntKind.u8 0, Value.int IntKind.u8 0, Value.int IntKind.u8 0, Value.int IntKind.u8 0, Value.int IntKind.u8 0, Value.int IntKind.u8 0, Value.int IntKind.u8 0, Value.int IntKind.u8 0, Value.int IntKind.u8 0, Value.int IntKind.u8 0, Value.int IntKind.u8 0, Value.int IntKind.u8 0, Value.int IntKind.u8 0, Value.int IntKind.u8 0, Value.int IntKind.u8 0, Value.int IntKind.u8 0, Value.int IntKind.u8 0, Value.int IntKind.u8 0, Value.int IntKind.u8 0, Value.int IntKind.u8 0, Value.int IntKind.u8 0, Value.int IntKind.u8 0, Value.int IntKind.u8 0, Value.int IntKind.u8 0, Value.int IntKind.u8 0, Value.int IntKind.u8 0, Value.int IntKind.u8 0] 26)).setCells w9.heap.size 0 (frL (vm y) 27)).heap.size := sx
      clear v bx sx
      generalize (w9.alloc (.cells #[Value.int IntKind.u8 0, Value.int IntKind.u8 0, Value.int IntKind.u8 0, Value.int IntKind.u8 0, Value.int IntKind.u8 0, Value.int IntKind.u8 0, Value.int IntKind.u8 0, Value.int IntKind.u8 0, Value.int IntKind.u8 0, Value.int IntKind.u8 0, Value.int IntKind.u8 0, Value.int IntKind.u8 0, Value.int IntKind.u8 0, Value.int IntKind.u8 0, Value.int IntKind.u8 0, Value.int IntKind.u8 0, Value.int IntKind.u8 0, Value.int IntKind.u8 0, Value.int IntKind.u8 0, Value.int IntKind.u8 0, Value.int IntKind.u8 0, Value.int IntKind.u8 0, Value.int IntKind.u8 0, Value.int IntKind.u8 0, Value.int IntKind.u8 0, Value.int IntKind.u8 0, Value.int IntKind.u8 0] 26)).setCells w9.heap.size 0 (frL (vm y) 27) = w10 at *
      have X10 : Hid (RowN w10 B1 33 x) := X9.out.below blw10 (by omega)
      have Z10 : Hid (RowN w10 B3 33 (fun j => x j ^^^ y j)) := Z9.out.below blw10 (by omega)
      have F1b : Hid (RowN w10 G1 27 (vm x)) := F1a.out.below blw10 sz9
      have bw10 : Below B1 w w10 := bw9.trans (blw10.mono (by omega))
      clear blw10 bw9 X9 Z9 F1a
      generalize hG2 : w9.heap.size = G2 at *
      go_wp2_with fail
      refine (frames_any B3 0 (fun j => x j ^^^ y j) _ Z10.out.burst (xor_bytes HYB.out HYO.out)).mono ?_
      rintro e w11 ⟨rfl, b11⟩
      have X11 : Hid (RowN w11 B1 33 x) := X10.out.below b11 (by omega)
      have F1c : Hid (RowN w11 G1 27 (vm x)) := F1b.out.below b11 (by omega)
      have F2c : Hid (RowN w11 G2 27 (vm y)) := F2.out.below b11 szw10
      have bw11 : Below B1 w w11 := bw10.trans (b11.mono (by omega))
      have sz11 : G2 < w11.heap.size := Nat.lt_of_lt_of_le szw10 b11.size
      clear b11 bw10 X10 Z10 F1b F2 szw10
      go_upto_region 13 with (refine wpList_store_mid rfl 26 (.tmp 11) (.tmp 46) rfl w11.heap.size 0 (frL (vm (fun j => x j ^^^ y j)) 27).toArray rfl rfl (by exact there27 w11 26 _) (by rw [frL_size]; kernel_rfl) (frL_one _ _) ?_)
      obtain ⟨v, bx, sx⟩ := var27 w11 26 (vm (fun j => x j ^^^ y j))
      have F3 : Hid (RowN ((w11.alloc (.cells #[Value.int IntKind.u8 0, Value.int IntKind.u8 0, Value.int IntKind.u8 0, Value.int IntKind.u8 0, Value.int IntKind.u8 0, Value.int IntKind.u8 0, Value.int IntKind.u8 0, Value.int IntKind.u8 0, Value.int IntKind.u8 0, Value.int IntKind.u8 0, Value.int IntKind.u8 0, Value.int IntKind.u8 0, Value.int IntKind.u8 0, Value.int IntKind.u8 0, Value.int IntKind.u8 0, Value.int IntKind.u8 0, Value.int IntKind.u8 0, Value.int IntKind.u8 0, Value.int IntKind.u8 0, Value.int IntKind.u8 0, Value.int IntKind.u8 0, Value.int IntKind.u8 0, Value.int IntKind.u8 0, Value.int IntKind.u8 0, Value.int IntKind.u8 0, Value.int IntKind.u8 0, Value.int IntKind.u8 0] 26)).setCells w11.heap.size 0 (frL (vm (fun j => x j ^^^ y j)) 27)) w11.heap.size 27 (vm (fun j => x j ^^^ y j))) := v
      have blw12 : Below w11.heap.size w11 ((w11.alloc (.cells #[Value.int IntKind.u8 0, Value.int IntKind.u8 0, Value.int IntKind.u8 0, Value.int IntKind.u8 0, Value.int IntKind.u8 0, Value.int IntKind.u8 0, Value.int IntKind.u8 0, Value.int IntKind.u8 0, Value.int IntKind.u8 0, Value.int IntKind.u8 0, Value.int IntKind.u8 0, Value.int IntKind.u8 0, Value.int IntKind.u8 0, Value.int IntKind.u8 0, Value.int IntKind.u8 0, Value.int IntKind.u8 0, Value.int IntKind.u8 0, Value.int IntKind.u8 0, Value.int IntKind.u8 0, Value.int IntKind.u8 0, Value.int IntKind.u8 0, Value.int IntKind.u8 0, Value.int IntKind.u8 0, Value.int IntKind.u8 0, Value.int IntKind.u8 0, Value.int IntKind.u8 0, Value.int IntKind.u8 0] 26)).setCells w11.heap.size 0 (frL (vm (fun j => x j ^^^ y j)) 27)) := bx
      have szw12 : w11.heap.size < ((w11.alloc (.cells #[Value.int IntKind.u8 0, Value.int IntKind.u8 0, Value.int IntKind.u8 0, Value.int IntKind.u8 0, Value.int IntKind.u8 0, Value.int IntKind.u8 0, Value.int IntKind.u8 0, Value.int IntKind.u8 0, Value.int IntKind.u8 0, Value.int IntKind.u8 0, Value.int IntKind.u8 0, Value.int IntKind.u8 0, Value.int IntKind.u8 0, Value.int IntKind.u8 0, Value.int IntKind.u8 0, Value.int IntKind.u8 0, Value.int IntKind.u8 0, Value.int IntKind.u8 0, Value.int IntKind.u8 0, Value.int IntKind.u8 0, Value.int IntKind.u8 0, Value.int IntKind.u8 0, Value.int IntKind.u8 0, Value.int IntKind.u8 0, Value.int IntKind.u8 0, Value.int IntKind.u8 0, Value.int IntKind.u8 0] 26)).setCells w11.heap.size 0 (frL (vm (fun j => x j ^^^ y j)) 27)).heap.size := sx
      clear v bx sx
      generalize (w11.alloc (.cells #[Value.int IntKind.u8 0, Value.int IntKind.u8 0, Value.int IntKind.u8 0, Value.int IntKind.u8 0, Value.int IntKind.u8 0, Value.int IntKind.u8 0, Value.int IntKind.u8 0, Value.int IntKind.u8 0, Value.int IntKind.u8 0, Value.int IntKind.u8 0, Value.int IntKind.u8 0, Value.int IntKind.u8 0, Value.int IntKind.u8 0, Value.int IntKind.u8 0, Value.int IntKind.u8 0, Value.int IntKind.u8 0, Value.int IntKind.u8 0, Value.int IntKind.u8 0, Value.int IntKind.u8 0, Value.int IntKind.u8 0, Value.int IntKind.u8 0, Value.int IntKind.u8 0, Value.int IntKind.u8 0, Value.int IntKind.u8 0, Value.int IntKind.u8 0, Value.int IntKind.u8 0, Value.int IntKind.u8 0] 26)).setCells w11.heap.size 0 (frL (vm (fun j => x j ^^^ y j)) 27) = w12 at *
      have XX : Hid (RowN w12 B1 33 x) := X11.out.below blw12 (by omega)
      have FA : Hid (RowN w12 G1 27 (vm x)) := F1c.out.below blw12 (by omega)
      have FB : Hid (RowN w12 G2 27 (vm y)) := F2c.out.below blw12 sz11
      have FC : Hid (RowN w12 w11.heap.size 27 (fun m => vm x m ^^^ vm y m)) := F3.out.cong fun j hj => vm_xor x y j
      have bw12 : Below w.heap.size w w12 := by rw [HB1.out]; exact bw11.trans (blw12.mono (by omega))
      clear blw12 bw11 X11 F1c F2c F3 szw12
      generalize w11.heap.size = G3 at *
      clear hG1 hG2
      go_wp2_with fail
      go_loopw [12, 13] (fun fb i wr => ∃ f n : Nat, i = .int .i64 f ∧ f ≤ 3 ∧ fb = .int .i64 (wf x (f * 9) : Nat) ∧ Hid (wr = w12.drewN n)) (fun _ i _ => 3 - (intOf i).toNat)
      case atStart => exact ⟨0, 0, rfl, by omega, rfl, rfl⟩
      case round =>
        obtain ⟨f, n, rfl, hf, rfl, hwo⟩ := hrel
        by_cases hft : f < 3
        · have hfd : decide ((f : Int) < 3) = true := by simp; omega
          go_wp2_with fail
          go_loopw [12, 14] (fun fb i wr => ∃ k n : Nat, i = .int .i64 k ∧ k ≤ 9 ∧ fb = .int .i64 (wf x (f * 9 + k) : Nat) ∧ Hid (wr = w12.drewN n)) (fun _ i _ => 9 - (intOf i).toNat)
          case atStart => exact ⟨0, n, rfl, by omega, rfl, hwo⟩
          case round =>
            obtain ⟨k, n2, rfl, hk, rfl, hwi⟩ := hrel
            by_cases hkt : k < 9
            · have hcw : ∀ a, wr.cell? a = w12.cell? a := fun a => by rw [hwi.out]; rfl
              have c1 := (FA.out (f * 9 + k) (by omega)).1
              have c2 := (FB.out (f * 9 + k) (by omega)).1
              have c3 := (FC.out (f * 9 + k) (by omega)).1
              have l1 := vm_lt HYB.out (f * 9 + k) (by omega)
              have l2 := vm_lt HYO.out (f * 9 + k) (by omega)
              have E : Hid (wf x (f * 9 + (k + 1)) = wf x (f * 9 + k) + pc (vm x (f * 9 + k))) := rfl
              have wb := wf_le x (f * 9 + k)
              simp only at c3
              rw [← hcw] at c1 c2 c3
              clear hcw
              generalize vm x (f * 9 + k) = V at *
              generalize vm y (f * 9 + k) = U at *
              have hx := u8_xor_nat V U l1 l2
              have hpc := pc_le V
              have C := fun W => pop_any V W l1
              generalize pc V = M at *
              generalize wf x (f * 9 + k) = A at *
              have q : (((V ^^^ U : Nat) : Int) != bits .xor .u8 (V : Int) (U : Int)) = false := by rw [hx]; simp
              rw [← hx] at c3
              clear hx q
              go_wp2_with fail
              go_quiet (fail)
              go_wp2_with (go_at_call 7; refine (C _).mono ?_; rintro e w' ⟨rfl, rfl⟩)
              go_roundw
              case rel => exact ⟨k + 1, _, by go_num, by omega, by rw [E.out] <;> go_num, by show _ = _; rw [hwi.out, World.drewN_drewN]⟩
              case measure => simp [intOf]; omega
            · have e : k = 9 := by omega
              subst e
              have E : Hid (wf x ((f + 1) * 9) = wf x (f * 9 + 9)) := by show _ = _; rw [Nat.add_mul]
              go_wp2
              go_roundw
              case rel => exact ⟨f + 1, n2, by go_num, by omega, by rw [E.out], hwi⟩
              case measure => simp [intOf]; omega
        · have EF : Hid (f = 3) := by show _ = _; omega
          have hfd : decide ((f : Int) < 3) = false := by simp; omega
          clear hf FA FB FC
          have hcw : ∀ a, wr.cell? a = w12.cell? a := fun a => by rw [hwo.out]; rfl
          have X0 : Hid (∀ j, j < 33 → wr.cell? ⟨B1, j, none⟩ = some (.int .u8 (x j : Int))) := fun j hj => by rw [hcw]; exact (XX.out j hj).1
          clear hcw
          go_wp2_with fail
          go_loop [15, 16] (fun al i => ∃ k : Nat, i = .int .i64 k ∧ k ≤ 33 ∧ al = .int .i64 (wa x k : Nat)) (fun _ i => 33 - (intOf i).toNat)
          case atStart => exact ⟨0, rfl, by omega, rfl⟩
          case round =>
            obtain ⟨k, rfl, hk, rfl⟩ := hrel
            by_cases hkt : k < 33
            · have c1 := X0.out k hkt
              have l1 := HYB.out k hkt
              have E : Hid (wa x (k + 1) = wa x k + pc (x k)) := rfl
              have wb := wa_le x k
              generalize x k = V at *
              have hpc := pc_le V
              have C := fun W => pop_any V W l1
              generalize pc V = M at *
              generalize wa x k = A at *
              go_wp2_with (go_at_call 7; refine (C _).mono ?_; rintro e w' ⟨rfl, rfl⟩)
              go_round
              case rel => exact ⟨k + 1, by go_num, by omega, by rw [E.out] <;> go_num⟩
              case measure => simp [intOf]; omega
            · have EK : Hid (k = 33) := by show _ = _; omega
              have hkd : decide ((k : Int) < 33) = false := by simp; omega
              clear hk
              have c13 := X0.out 13 (by omega)
              have c19 := X0.out 19 (by omega)
              have l13 := HYB.out 13 (by omega)
              have l19 := HYB.out 19 (by omega)
              have m13 := u8_and_nat (x 13) 15 l13 (by omega)
              have m19 := u8_and_nat (x 19) 240 l19 (by omega)
              have a13 : x 13 &&& 15 < 256 := Nat.lt_of_le_of_lt Nat.and_le_left l13
              have a19 : x 19 &&& 240 < 256 := Nat.lt_of_le_of_lt Nat.and_le_left l19
              have FIN : Hid ((wf x (f * 9) : Int) = wa x k - ((pc (x 13 &&& 15) + pc (x 19 &&& 240) : Nat) + wm x 5 : Int)) := by show _ = _; rw [EF.out, EK.out]; exact weight x HYB.out
              have p13 := pc_le (x 13 &&& 15)
              have p19 := pc_le (x 19 &&& 240)
              have C13 := fun W => pop_any (x 13 &&& 15) W a13
              have C19 := fun W => pop_any (x 19 &&& 240) W a19
              have wbf := wf_le x (f * 9)
              have wba := wa_le x k
              have hf3 : f * 9 ≤ 27 := by have := EF.out; omega
              have hk3 : k ≤ 33 := by have := EK.out; omega
              have wbf2 : wf x (f * 9) ≤ 216 := by omega
              have wba2 : wa x k ≤ 264 := by omega
              generalize x 13 &&& 15 = A at *
              generalize x 19 &&& 240 = D at *
              generalize pc A = PA at *
              generalize pc D = PD at *
              rw [show ((15 : Nat) : Int) = 15 from rfl] at m13
              rw [show ((240 : Nat) : Int) = 240 from rfl] at m19
              clear wbf wba hf3 hk3
              go_wp2_with fail
              go_quiet (first | (go_at_call_of 7 (A : Int); exact Calls.quiet_of_same (C13 _)) | (go_at_call_of 7 (D : Int); exact Calls.quiet_of_same (C19 _)))
              go_wp2_with fail
              go_loop [17, 18] (fun md i => ∃ t : Nat, i = .int .i64 ((14 + t : Nat) : Int) ∧ t ≤ 5 ∧ md = .int .i64 ((PA + PD + wm x t : Nat) : Int)) (fun _ i => 19 - (intOf i).toNat)
              case atStart => exact ⟨0, rfl, by omega, by go_num⟩
              case round =>
                obtain ⟨t, rfl, ht, rfl⟩ := hrel
                by_cases htt : t < 5
                · have c1 := X0.out (14 + t) (by omega)
                  have l1 := HYB.out (14 + t) (by omega)
                  have E : Hid (PA + PD + wm x (t + 1) = PA + PD + wm x t + pc (x (14 + t))) := by show _ = _; rw [Nat.add_assoc (PA + PD)]; rfl
                  have wb := wm_le x t
                  have wb2 : PA + PD + wm x t ≤ 100 := by omega
                  have n1 : (0 : Int) ≤ 14 + (t : Int) := by omega
                  have n2 : (14 + (t : Int)).toNat = 14 + t := by omega
                  generalize x (14 + t) = V at *
                  have hpc := pc_le V
                  have C := fun W => pop_any V W l1
                  generalize pc V = M at *
                  generalize PA + PD + wm x t = Q at *
                  go_wp2_with (go_at_call 7; refine (C _).mono ?_; rintro e w' ⟨rfl, rfl⟩)
                  go_round
                  case rel => exact ⟨t + 1, by go_num, by omega, by rw [E.out] <;> go_num⟩
                  case measure => simp [intOf]; omega
                · have e : t = 5 := by omega
                  have HQ : Hid (PA + PD + wm x t = PA + PD + wm x 5) := by show _ = _; rw [e]
                  have wb := wm_le x 5
                  have h14 : ¬ (14 + (t : Int) ≤ 18) := by omega
                  generalize hq : PA + PD + wm x t = Q at *
                  have q : (((wf x (f * 9) : Nat) : Int) == ((wa x k : Nat) : Int) - (Q : Int)) = true := by
                    rw [beq_iff_eq, FIN.out]
                    have := HQ.out
                    omega
                  have hQ2 : Q ≤ 100 := by have := HQ.out; omega
                  clear hq e
                  generalize wf x (f * 9) = Wf at *
                  generalize wa x k = Wa at *
                  go_wp2
                  go_ret
                  exact ⟨rfl, belowN (by rw [hwo.out]; exact belowN bw12 _) _⟩
end Go.Proofs.Qxb6627477a
