import Derived.Test.Qxb6627435aCanon
namespace Go.Proofs.Qxb6627435a
open Go.RowKit
set_option linter.unusedVariables false

theorem Try.info3 : (Try.prog.info? 3).map (fun i => (i.zero, i.size, i.bytes)) = some (some (.int .i64 0), 1, 8) := by kernel_rfl
theorem Try.info9 : (Try.prog.info? 9).map (fun i => (i.zero, i.size, i.bytes)) = some (some (.string ByteArray.empty), 1, 16) := by kernel_rfl
theorem Try.info43 : (Try.prog.info? 43).map (fun i => (i.zero, i.size, i.bytes)) = some (some (.agg #[.int .i64 0, .string ByteArray.empty, .int .i64 0]), 3, 32) := by kernel_rfl

def made3 (n : Nat) : Array Value := madeCells #[.int .i64 0] (n * 1)
def made9 (n : Nat) : Array Value := madeCells #[.string ByteArray.empty] (n * 1)
def made43 (n : Nat) : Array Value := madeCells #[.int .i64 0, .string ByteArray.empty, .int .i64 0] (n * 3)

theorem run_mk3 (n : Nat) (hn : n ≤ 1048576) (W : World) : (Instr.makeSlice 22 (.int .i64 (n : Int)) (.int .i64 (n : Int))).run Try.prog W = .ok (.slice (some ⟨W.heap.size, 0, none⟩) n n) (W.alloc (.cells (made3 n) 3)) := by
  obtain ⟨i, hi, hz, h1, h2⟩ := info_parts Try.info3
  have := run_make (P := Try.prog) W 22 3 i (.int .i64 0) Try.underlying22 hi hz .i64 .i64 n n (by omega) (by omega) (by rw [h2]; omega) (by omega)
  rw [this, h1]
  simp [made3, Value.cells]
theorem run_mk9 (n : Nat) (hn : n ≤ 1048576) (W : World) : (Instr.makeSlice 23 (.int .i64 (n : Int)) (.int .i64 (n : Int))).run Try.prog W = .ok (.slice (some ⟨W.heap.size, 0, none⟩) n n) (W.alloc (.cells (made9 n) 9)) := by
  obtain ⟨i, hi, hz, h1, h2⟩ := info_parts Try.info9
  have := run_make (P := Try.prog) W 23 9 i (.string ByteArray.empty) Try.underlying23 hi hz .i64 .i64 n n (by omega) (by omega) (by rw [h2]; omega) (by omega)
  rw [this, h1]
  simp [made9, Value.cells]
theorem run_mk43 (n : Nat) (hn : n ≤ 1048576) (W : World) : (Instr.makeSlice 27 (.int .i64 (n : Int)) (.int .i64 (n : Int))).run Try.prog W = .ok (.slice (some ⟨W.heap.size, 0, none⟩) n n) (W.alloc (.cells (made43 n) 43)) := by
  obtain ⟨i, hi, hz, h1, h2⟩ := info_parts Try.info43
  have := run_make (P := Try.prog) W 27 43 i (.agg #[.int .i64 0, .string ByteArray.empty, .int .i64 0]) Try.underlying27 hi hz .i64 .i64 n n (by omega) (by omega) (by rw [h2]; omega) (by omega)
  rw [this, h1]
  simp [made43, Value.cells]

theorem made3_at (n j : Nat) (h : j < n) : (made3 n)[j]? = some (.int .i64 0) := by
  simp [made3, madeCells, h, Nat.mod_one]
theorem made9_at (n j : Nat) (h : j < n) : (made9 n)[j]? = some (.string ByteArray.empty) := by
  simp [made9, madeCells, h, Nat.mod_one]
theorem made43_size (n : Nat) : (made43 n).size = n * 3 := by simp [made43, madeCells]

/-- The Op's Base over the first k spans. -/
def baseTo (ns : List Int) : Nat → Int
  | 0 => 0
  | k + 1 => baseTo ns k + (if 0 < ns[k]! then ns[k]! else if ns[k]! < 0 then -ns[k]! else 0)
def gain (x : Int) (s : ByteArray) : Int := if 0 < x then x else if x < 0 then 0 else (Lib.runeCount s : Nat)
def tgtTo (ns : List Int) (ss : List ByteArray) : Nat → Int
  | 0 => 0
  | k + 1 => tgtTo ns ss k + gain ns[k]! ss[k]!

def Small (ns : List Int) (ss : List ByteArray) (n : Nat) : Prop := ∀ k, k < n → ns[k]! ≤ 1099511627776 ∧ -1099511627776 ≤ ns[k]! ∧ ss[k]!.size ≤ 1048576

theorem baseTo_bd {ns : List Int} {ss : List ByteArray} {n : Nat} (h : Small ns ss n) : ∀ k, k ≤ n → 0 ≤ baseTo ns k ∧ baseTo ns k ≤ k * 1099511627776
  | 0, _ => by simp [baseTo]
  | k + 1, hk => by
    have ih := baseTo_bd h k (by omega)
    have := h k (by omega)
    unfold baseTo
    split
    · omega
    · split <;> omega
theorem gain_bd {x : Int} {s : ByteArray} (h1 : x ≤ 1099511627776) (h2 : s.size ≤ 1048576) : 0 ≤ gain x s ∧ gain x s ≤ 1099511627776 := by
  have := Lib.runeCount_le s
  unfold gain
  split
  · omega
  · split <;> omega
theorem tgtTo_bd {ns : List Int} {ss : List ByteArray} {n : Nat} (h : Small ns ss n) : ∀ k, k ≤ n → 0 ≤ tgtTo ns ss k ∧ tgtTo ns ss k ≤ k * 1099511627776
  | 0, _ => by simp [tgtTo]
  | k + 1, hk => by
    have ih := tgtTo_bd h k (by omega)
    have := h k (by omega)
    have := gain_bd (s := ss[k]!) this.1 this.2.2
    unfold tgtTo
    omega

/-- n integers, whatever they are, lie from the head of block g on. -/
def IntRow (w : World) (g n : Nat) : Prop := ∀ j, j < n → ∃ z, w.cell? ⟨g, j, none⟩ = some (.int .i64 z)
def FreeRow (w : World) (g n : Nat) : Prop := ∀ j, j < n → w.frozen? ⟨g, j, none⟩ = false

theorem IntRow.below {w w' : World} {g n : Nat} (h : IntRow w g n) (hb : Below w.heap.size w w') : IntRow w' g n := fun j hj => by
  obtain ⟨z, hz⟩ := h j hj
  exact ⟨z, (hb.cell (cell_lt hz)).trans hz⟩

theorem IntRow.made (w : World) (n : Nat) : IntRow (w.alloc (.cells (made3 n) 3)) w.heap.size n := fun j hj => ⟨0, by simp [made3_at n j hj]⟩
theorem FreeRow.made (w : World) (c : Array Value) (t : TypeId) (n : Nat) : FreeRow (w.alloc (.cells c t)) w.heap.size n := fun j hj => by simp
theorem IntRow.set {w : World} {g n k : Nat} (h : IntRow w g n) (hk : k < n) (z : Int) : IntRow (w.setCell ⟨g, k, none⟩ (.int .i64 z)) g n := fun j hj => by
  by_cases e : j = k
  · subst e
    obtain ⟨z', hz⟩ := h j hj
    exact ⟨z, World.cell?_setCell_same' _ _ _ (by rw [hz]; rfl)⟩
  · obtain ⟨z', hz⟩ := h j hj
    exact ⟨z', by rw [World.cell?_setCell_other _ _ _ _ (by simp)]; exact hz⟩
theorem FreeRow.set {w : World} {g n k : Nat} (h : FreeRow w g n) (v : Value) : FreeRow (w.setCell ⟨g, k, none⟩ v) g n := fun j hj => by
  rw [World.frozen?_setCell]; exact h j hj

set_option maxHeartbeats 1000000 in
theorem measure_any (p q : Option Addr) (cn cm n : Nat) (ns : List Int) (ss : List ByteArray) (w : World) (hN : ns.length = n) (hM : ss.length = n) (hn : n ≤ 65536) (hp : Reads w p (ints ns)) (hq : Reads w q (strs ss)) (hS : Small ns ss n) :
    Calls Try.prog 7 #[.slice p n cn, .slice q n cm] w fun e w' => e = .returned (.tuple #[.slice (some ⟨w.heap.size, 0, none⟩) n n, .int .i64 (baseTo ns n), .int .i64 (tgtTo ns ss n)]) ∧ Below w.heap.size w w' ∧ IntRow w' w.heap.size n := by
  have HP : Hid (Reads w p (ints ns)) := hp
  have HQ : Hid (Reads w q (strs ss)) := hq
  have HN : Hid (ns.length = n) := hN
  have HM : Hid (ss.length = n) := hM
  have HS : Hid (Small ns ss n) := hS
  clear hp hq hN hM hS
  have hmk := run_mk3 n (by omega)
  go_enter Try.func7, Try.ntmps7
  go_wp2
  have hI : Hid (IntRow (w.alloc (.cells (made3 n) 3)) w.heap.size n) := IntRow.made w n
  have hF : Hid (FreeRow (w.alloc (.cells (made3 n) 3)) w.heap.size n) := FreeRow.made w _ _ n
  have hB : Below w.heap.size w (w.alloc (.cells (made3 n) 3)) := (Below.refl _ w).alloc (Nat.le_refl _) _
  clear hmk
  generalize w.alloc (.cells (made3 n) 3) = w0 at *
  go_loopw [8, 9, 10] (fun bs tg i wr => ∃ k : Nat, i = .int .i64 k ∧ k ≤ n ∧ bs = .int .i64 (baseTo ns k) ∧ tg = .int .i64 (tgtTo ns ss k) ∧ Hid (IntRow wr w.heap.size n) ∧ Hid (FreeRow wr w.heap.size n) ∧ Below w.heap.size w wr) (fun _ _ i _ => n - (intOf i).toNat)
  case atStart => exact ⟨0, rfl, by omega, rfl, rfl, hI, hF, hB⟩
  case round =>
    obtain ⟨k, rfl, hk, rfl, rfl, hI, hF, hB⟩ := hrel
    obtain ⟨bb1, bb2⟩ := baseTo_bd HS.out k hk
    obtain ⟨tb1, tb2⟩ := tgtTo_bd HS.out k hk
    by_cases hlt : k < n
    · have kN : k < ns.length := by have := HN.out; omega
      have kM : k < ss.length := by have := HM.out; omega
      obtain ⟨b, off, rfl, hc⟩ := (Reads.below HP.out hB).int k kN
      obtain ⟨b', off', rfl, hd⟩ := (Reads.below HQ.out hB).str k kM
      obtain ⟨z, hz⟩ := hI.out k hlt
      have hfz := hF.out k hlt
      obtain ⟨s1, s2, s3⟩ := HS.out k hlt
      have E1 : Hid (baseTo ns (k + 1) = baseTo ns k + (if 0 < ns[k]! then ns[k]! else if ns[k]! < 0 then -ns[k]! else 0)) := rfl
      have E2 : Hid (tgtTo ns ss (k + 1) = tgtTo ns ss k + gain ns[k]! ss[k]!) := rfl
      rw [← getElem!_pos ns k kN] at hc
      rw [← getElem!_pos ss k kM] at hd
      generalize ns[k]! = x at *
      generalize ss[k]! = s at *
      clear kN kM
      generalize baseTo ns k = B at *
      generalize tgtTo ns ss k = T at *
      have hrc := Lib.runeCount_le s
      obtain ⟨R, hR⟩ : ∃ R, Lib.runeCount s = R := ⟨_, rfl⟩
      have C := count_any s wr s3
      rw [hR] at C hrc
      have HR : Hid (Lib.runeCount s = R) := hR
      clear hR
      by_cases h1 : 0 < x
      · go_wp2
        go_roundw
        case rel => exact ⟨k + 1, by go_num, by omega, by rw [E1.out, if_pos h1], by rw [E2.out, gain, if_pos h1], hI, hF, hB⟩
        case measure => simp [intOf]; omega
      · by_cases h2 : x < 0
        · go_wp2
          go_roundw
          case rel => exact ⟨k + 1, by go_num, by omega, by rw [E1.out, if_neg (by omega : ¬ 0 < x), if_pos (by omega : x < 0)]; go_num, by rw [E2.out, gain, if_neg (by omega : ¬ 0 < x), if_pos (by omega : x < 0)]; go_num, hI, hF, hB⟩
          case measure => simp [intOf]; omega
        · go_wp2_with (go_at_call 14; refine C.mono ?_; rintro e w' ⟨rfl, rfl⟩)
          go_roundw
          case rel => exact ⟨k + 1, by go_num, by omega, by rw [E1.out, if_neg (by omega : ¬ 0 < x), if_neg (by omega : ¬ x < 0)]; go_num, by rw [E2.out, gain, if_neg (by omega : ¬ 0 < x), if_neg (by omega : ¬ x < 0), HR.out], hI.out.set hlt _, hF.out.set _, hB.setCell (Nat.le_refl _) _⟩
          case measure => simp [intOf]; omega
    · have e : k = n := by omega
      subst e
      go_wp2
      go_ret3
      exact ⟨rfl, hB, hI.out⟩
end Go.Proofs.Qxb6627435a
