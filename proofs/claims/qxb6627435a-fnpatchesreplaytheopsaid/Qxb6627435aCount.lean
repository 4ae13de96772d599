import Derived.Test.Qxb6627435aRuneSize
import Derived.Shelf.Utf8.RuneCount
import Derived.Shelf.Lay
import Derived.Ground.NamesProg
namespace Go.Proofs.Qxb6627435a
open Go.RowKit Go.Shelf
set_option linter.unusedVariables false

theorem dec_bd (s : ByteArray) (k : Nat) (h : k < s.size) : 1 ≤ (Utf8.decode s k).2 ∧ (Utf8.decode s k).2 ≤ 4 := by
  refine ⟨Lib.decode_width_pos s k h, ?_⟩
  rw [Lib.decode_at]
  unfold Lib.decodeN
  repeat' split
  all_goals simp only
  all_goals omega

set_option maxHeartbeats 400000 in
theorem count_any (s : ByteArray) (w : World) (hs : s.size ≤ 1048576) :
    Calls Try.prog 14 #[.string s] w fun e w' => e = .returned (.int .i64 (Lib.runeCount s : Nat)) ∧ w' = w := by
  go_enter Try.func14, Try.ntmps14
  go_wp2
  go_loop [3, 4] (fun n i => ∃ acc pos b : Nat, n = .int .i64 acc ∧ i = .int .i64 pos ∧ Hid (acc + Lib.runeCountFrom s b pos = Lib.runeCount s) ∧ s.size ≤ pos + b ∧ acc ≤ pos ∧ pos ≤ s.size + 4) (fun _ i => s.size - (intOf i).toNat)
  case atStart => exact ⟨0, 0, s.size, rfl, rfl, by show 0 + _ = _; simp [Lib.runeCount], by omega, by omega, by omega⟩
  case round =>
    obtain ⟨acc, pos, b, rfl, rfl, hc, hb, ha, hp⟩ := hrel
    by_cases hlt : pos < s.size
    · have hd := dec_bd s pos hlt
      obtain ⟨hd1, hd2⟩ := hd
      obtain ⟨K, hK⟩ : ∃ K, (Utf8.decode s pos).2 = K := ⟨_, rfl⟩
      have C := runeSize_any s pos w hs hlt
      rw [hK] at C hd1 hd2
      have HK : Hid ((Utf8.decode s pos).2 = K) := hK
      clear hK
      go_wp2_with (go_at_call 18; refine C.mono ?_; rintro e w' ⟨rfl, rfl⟩)
      go_round
      case rel =>
        refine ⟨acc + 1, pos + K, b - 1, by go_num, by go_num, ?_, by omega, by omega, by omega⟩
        show _ = _
        rw [← hc.out]
        cases b with
        | zero => omega
        | succ b =>
          simp only [Lib.runeCountFrom, hlt, if_true, HK.out, Nat.add_sub_cancel]
          omega
      case measure => simp [intOf]; omega
    · go_wp2
      go_ret
      have e := hc.out
      rw [Lib.runeCountFrom_end s b pos hlt, Nat.add_zero] at e
      exact ⟨ret_int (by rw [e]), rfl⟩

set_option maxHeartbeats 400000 in
theorem kind_pos (n : Int) (w : World) (h : 0 < n) : Calls Try.prog 15 #[.int .i64 n] w fun e w' => e = .returned (.int .i64 1) ∧ w' = w := by
  go_enter Try.func15, Try.ntmps15
  go_wp2
  go_ret
  exact ⟨rfl, rfl⟩
set_option maxHeartbeats 400000 in
theorem kind_neg (n : Int) (w : World) (h : n < 0) : Calls Try.prog 15 #[.int .i64 n] w fun e w' => e = .returned (.int .i64 2) ∧ w' = w := by
  have h' : ¬ 0 < n := by omega
  go_enter Try.func15, Try.ntmps15
  go_wp2
  go_ret
  exact ⟨rfl, rfl⟩
set_option maxHeartbeats 400000 in
theorem kind_zero (n : Int) (w : World) (h0 : n ≤ 0) (h1 : 0 ≤ n) : Calls Try.prog 15 #[.int .i64 n] w fun e w' => e = .returned (.int .i64 0) ∧ w' = w := by
  go_enter Try.func15, Try.ntmps15
  go_wp2
  go_ret
  exact ⟨rfl, rfl⟩
/-- 0 an insert, 1 a keep, 2 a delete. -/
def kind (n : Int) : Int := if 0 < n then 1 else if n < 0 then 2 else 0
theorem kind_any (n : Int) (w : World) : Calls Try.prog 15 #[.int .i64 n] w fun e w' => e = .returned (.int .i64 (kind n)) ∧ w' = w := by
  unfold kind
  by_cases h : 0 < n
  · rw [if_pos h]; exact kind_pos n w h
  · rw [if_neg h]
    by_cases h2 : n < 0
    · rw [if_pos h2]; exact kind_neg n w h2
    · rw [if_neg h2]; exact kind_zero n w (by omega) (by omega)

shelf_lay Lays.n195 Nm 195 at Try as Try.l195

theorem below_iter (w : World) (s : ByteArray) (pos : Nat) : Below w.heap.size w (w.iter s pos) := (Below.refl _ w).alloc (Nat.le_refl _) _

theorem utf8_any (s : ByteArray) (w : World) (hs : s.size ≤ 1048576) :
    Calls Try.prog 16 #[.string s] w fun e w' => e = .returned (.int .i64 (Lib.runeCount s : Nat)) ∧ Below w.heap.size w w' := by
  have h : Calls Try.prog 16 #[.string s] w fun e w' => e = .returned (.int .i64 (Lib.runeCount s)) ∧ ∃ pos, w' = w.iter s pos := Any.utf8_RuneCountInString Try.l195 s w (by omega)
  refine h.mono ?_
  rintro e w' ⟨rfl, pos, rfl⟩
  exact ⟨rfl, below_iter w s pos⟩
end Go.Proofs.Qxb6627435a
