import Derived.Test.Qxb6627477aBits
import Derived.Deep.RegionWith
import Derived.Deep.MidRow
import Derived.Deep.DeepCutAuto
namespace Go.Proofs.Qxb6627477a
open Go.RowKit
set_option linter.unusedVariables false

/-- The burst's 33 bytes lie at place off of block bb. -/
def Burst (w : World) (bb off : Nat) (b : Nat → Nat) : Prop := ∀ j, j < 33 → w.cell? ⟨bb, off + j, none⟩ = some (.int .u8 (b j : Int))
def Bytes (b : Nat → Nat) : Prop := ∀ j, j < 33 → b j < 256
theorem cell_lt {w : World} {a : Addr} {v : Value} (h : w.cell? a = some v) : a.block < w.heap.size := by
  by_cases hb : a.block < w.heap.size
  · exact hb
  · exfalso
    have e : w.heap[a.block]? = none := by simp; omega
    unfold World.cell? at h
    rw [e] at h
    simp at h
theorem Burst.below {w w' : World} {bb off : Nat} {b : Nat → Nat} (h : Burst w bb off b) (hb : Below w.heap.size w w') : Burst w' bb off b := fun j hj => (hb.cell (cell_lt (h j hj))).trans (h j hj)

/-- The frames' 27 bytes, k bits set, lie at the head of block g. -/
def Row27 (w : World) (g : Nat) (f : Nat → Nat) : Prop := ∀ j, j < 27 → w.cell? ⟨g, j, none⟩ = some (.int .u8 (f j : Int)) ∧ w.frozen? ⟨g, j, none⟩ = false

/-- 27 zeros. -/
def z27 : Array Value := #[Value.int IntKind.u8 0, Value.int IntKind.u8 0, Value.int IntKind.u8 0, Value.int IntKind.u8 0, Value.int IntKind.u8 0, Value.int IntKind.u8 0, Value.int IntKind.u8 0, Value.int IntKind.u8 0, Value.int IntKind.u8 0, Value.int IntKind.u8 0, Value.int IntKind.u8 0, Value.int IntKind.u8 0, Value.int IntKind.u8 0, Value.int IntKind.u8 0, Value.int IntKind.u8 0, Value.int IntKind.u8 0, Value.int IntKind.u8 0, Value.int IntKind.u8 0, Value.int IntKind.u8 0, Value.int IntKind.u8 0, Value.int IntKind.u8 0, Value.int IntKind.u8 0, Value.int IntKind.u8 0, Value.int IntKind.u8 0, Value.int IntKind.u8 0, Value.int IntKind.u8 0, Value.int IntKind.u8 0]
theorem z27_at (j : Nat) (h : j < 27) : z27[j]? = some (.int .u8 0) := by
  have e : z27 = Array.replicate 27 (.int .u8 0) := rfl
  rw [e]
  simp [h]
theorem row_new (w : World) (t : TypeId) : Row27 (w.alloc (.cells z27 t)) w.heap.size (fun _ => 0) := fun j hj => ⟨by simp [z27_at j hj], by simp⟩
theorem Row27.below {w w' : World} {g : Nat} {f : Nat → Nat} (h : Row27 w g f) (hb : Below w.heap.size w w') : Row27 w' g f := fun j hj => ⟨(hb.cell (cell_lt (h j hj).1)).trans (h j hj).1, (hb.frozen (p := ⟨g, j, none⟩) (cell_lt (h j hj).1)).trans (h j hj).2⟩
theorem Row27.cong {w : World} {g : Nat} {f f' : Nat → Nat} (h : Row27 w g f) (e : ∀ j, j < 27 → f j = f' j) : Row27 w g f' := fun j hj => by rw [← e j hj]; exact h j hj
theorem row_set {w : World} {g m V : Nat} {f f' : Nat → Nat} (h : Row27 w g f) (hm : m < 27) (h1 : V = f' m) (h2 : ∀ j, j < 27 → j ≠ m → f j = f' j) : Row27 (w.setCell ⟨g, m, none⟩ (.int .u8 (V : Int))) g f' := fun j hj => by
  rw [World.frozen?_setCell]
  by_cases e : j = m
  · subst e
    exact ⟨by rw [World.cell?_setCell_same' _ _ _ (by rw [(h j hj).1]; rfl), h1], (h j hj).2⟩
  · exact ⟨by rw [World.cell?_setCell_other _ _ _ _ (fun x => e (by injection x; omega)), ← h2 j hj e]; exact (h j hj).1, (h j hj).2⟩

/-- n bytes, as cells. -/
def frL (f : Nat → Nat) (n : Nat) : List Value := (List.range n).map fun j => Value.int .u8 (f j : Int)
theorem frL_len (f : Nat → Nat) (n : Nat) : (frL f n).length = n := by simp [frL]
theorem frL_size (f : Nat → Nat) (n : Nat) : (frL f n).toArray.size = n := by simp [frL]
theorem frL_get (f : Nat → Nat) (n j : Nat) (h : j < n) : (frL f n)[j]? = some (.int .u8 (f j : Int)) := by simp [frL, h]
theorem frL_one (f : Nat → Nat) (n : Nat) : (frL f n).toArray.all (·.oneCell') = true := all_oneCell_toArray fun v hv => by
  simp only [frL, List.mem_map] at hv
  obtain ⟨j, _, rfl⟩ := hv
  rfl
theorem range_of {w : World} {g o n : Nat} {f : Nat → Nat} (h : ∀ j, j < n → w.cell? ⟨g, o + j, none⟩ = some (.int .u8 (f j : Int))) : w.rangeAt g o (frL f n) := fun j v hv => by
  have hj : j < n := by have := (List.getElem?_eq_some_iff.1 hv).1; rwa [frL_len] at this
  rw [frL_get f n j hj] at hv
  rw [h j hj, hv]
theorem row_range {w : World} {g : Nat} {f : Nat → Nat} (h : Row27 w g f) : w.rangeAt g 0 (frL f 27) := range_of fun j hj => by rw [Nat.zero_add]; exact (h j hj).1
theorem row_there {w : World} {g : Nat} {f : Nat → Nat} (h : Row27 w g f) : w.there g 0 27 := fun j hj => by rw [Nat.zero_add, (h j hj).1]; exact ⟨rfl, (h j hj).2⟩

theorem below_setCells (g : Nat) : ∀ (vs : List Value) (o : Nat) {B : Nat} {w0 w : World}, Below B w0 w → B ≤ g → Below B w0 (w.setCells g o vs)
  | [], _, _, _, _, h, _ => h
  | v :: r, o, B, w0, w, h, hg => by
    rw [World.setCells]
    exact below_setCells g r (o + 1) (h.setCell (p := ⟨g, o, none⟩) hg v) hg
theorem results_cell_mid {P : Program} {fn : Func} {p : Tmp} {ty : TypeId} (h : fn.results = #[.cell p ty]) (tmps : Array Value) (w : World) (g o : Nat) (cs : List Value) (d : TypeDesc)
    (hp : tmps.getD p undef = .pointer (some ⟨g, o, none⟩)) (hg : w.rangeAt g o cs)
    (hu : P.underlying ty = some d) (hd : d.isRow = true) (hi : (P.info? ty).map (·.size) = some cs.length) :
    (results fn tmps).run P w = .ok (.agg cs.toArray) w := by
  have hp' : tmps[p]?.getD undef = .pointer (some ⟨g, o, none⟩) := by simpa using hp
  simp [results, h, hp', asAddr, run_loadVar_mid w g o ty cs d hg hu hd hi]

theorem row_step {w : World} {g k m V B : Nat} {b : Nat → Nat} (h : Row27 w g (fB b k)) (hm : m = k / 8) (hs : setB V k B = fB b (k + 1) (k / 8)) (hk : k < 216) : Hid (Row27 (w.setCell ⟨g, m, none⟩ (.int .u8 (setB V (k % 72) B : Nat))) g (fB b (k + 1))) := by
  subst hm
  refine row_set h (by omega) ?_ (fun j hj e => (fB_other b k j e).symm)
  rw [← hs, setB_mod, setB_mod V k, show k % 72 % 8 = k % 8 by omega]

set_option maxHeartbeats 4000000 in
set_option maxRecDepth 1000000 in
theorem frames_any (bb off : Nat) (b : Nat → Nat) (w : World) (hb : Burst w bb off b) (hy : Bytes b) :
    Calls Try.prog 5 #[.pointer (some ⟨bb, off, none⟩)] w fun e w' => e = .returned (.agg (frL (vm b) 27).toArray) ∧ Below w.heap.size w w' := by
  have HB : Hid (Burst w bb off b) := hb
  have HY : Hid (Bytes b) := hy
  have hbl : bb < w.heap.size := cell_lt (hb 0 (by omega))
  clear hb hy
  go_enter Try.func5, Try.ntmps5
  go_wp2
  have hB0 : Below w.heap.size w ((w.alloc (.cells #[Value.int IntKind.u8 0, Value.int IntKind.u8 0, Value.int IntKind.u8 0, Value.int IntKind.u8 0, Value.int IntKind.u8 0, Value.int IntKind.u8 0, Value.int IntKind.u8 0, Value.int IntKind.u8 0, Value.int IntKind.u8 0, Value.int IntKind.u8 0, Value.int IntKind.u8 0, Value.int IntKind.u8 0, Value.int IntKind.u8 0, Value.int IntKind.u8 0, Value.int IntKind.u8 0, Value.int IntKind.u8 0, Value.int IntKind.u8 0, Value.int IntKind.u8 0, Value.int IntKind.u8 0, Value.int IntKind.u8 0, Value.int IntKind.u8 0, Value.int IntKind.u8 0, Value.int IntKind.u8 0, Value.int IntKind.u8 0, Value.int IntKind.u8 0, Value.int IntKind.u8 0, Value.int IntKind.u8 0] 26)).alloc (.cells #[Value.int IntKind.u8 0, Value.int IntKind.u8 0, Value.int IntKind.u8 0, Value.int IntKind.u8 0, Value.int IntKind.u8 0, Value.int IntKind.u8 0, Value.int IntKind.u8 0, Value.int IntKind.u8 0, Value.int IntKind.u8 0, Value.int IntKind.u8 0, Value.int IntKind.u8 0, Value.int IntKind.u8 0, Value.int IntKind.u8 0, Value.int IntKind.u8 0, Value.int IntKind.u8 0, Value.int IntKind.u8 0, Value.int IntKind.u8 0, Value.int IntKind.u8 0, Value.int IntKind.u8 0, Value.int IntKind.u8 0, Value.int IntKind.u8 0, Value.int IntKind.u8 0, Value.int IntKind.u8 0, Value.int IntKind.u8 0, Value.int IntKind.u8 0, Value.int IntKind.u8 0, Value.int IntKind.u8 0] 26)) := ((Below.refl _ w).alloc (Nat.le_refl _) _).alloc (by simp) _
  have hR0 : Hid (Row27 ((w.alloc (.cells #[Value.int IntKind.u8 0, Value.int IntKind.u8 0, Value.int IntKind.u8 0, Value.int IntKind.u8 0, Value.int IntKind.u8 0, Value.int IntKind.u8 0, Value.int IntKind.u8 0, Value.int IntKind.u8 0, Value.int IntKind.u8 0, Value.int IntKind.u8 0, Value.int IntKind.u8 0, Value.int IntKind.u8 0, Value.int IntKind.u8 0, Value.int IntKind.u8 0, Value.int IntKind.u8 0, Value.int IntKind.u8 0, Value.int IntKind.u8 0, Value.int IntKind.u8 0, Value.int IntKind.u8 0, Value.int IntKind.u8 0, Value.int IntKind.u8 0, Value.int IntKind.u8 0, Value.int IntKind.u8 0, Value.int IntKind.u8 0, Value.int IntKind.u8 0, Value.int IntKind.u8 0, Value.int IntKind.u8 0] 26)).alloc (.cells #[Value.int IntKind.u8 0, Value.int IntKind.u8 0, Value.int IntKind.u8 0, Value.int IntKind.u8 0, Value.int IntKind.u8 0, Value.int IntKind.u8 0, Value.int IntKind.u8 0, Value.int IntKind.u8 0, Value.int IntKind.u8 0, Value.int IntKind.u8 0, Value.int IntKind.u8 0, Value.int IntKind.u8 0, Value.int IntKind.u8 0, Value.int IntKind.u8 0, Value.int IntKind.u8 0, Value.int IntKind.u8 0, Value.int IntKind.u8 0, Value.int IntKind.u8 0, Value.int IntKind.u8 0, Value.int IntKind.u8 0, Value.int IntKind.u8 0, Value.int IntKind.u8 0, Value.int IntKind.u8 0, Value.int IntKind.u8 0, Value.int IntKind.u8 0, Value.int IntKind.u8 0, Value.int IntKind.u8 0] 26)) w.heap.size (fun _ => 0)) := (row_new w 26).below ((Below.refl _ _).alloc (Nat.le_refl _) _)
  have hR1 : Hid (Row27 ((w.alloc (.cells #[Value.int IntKind.u8 0, Value.int IntKind.u8 0, Value.int IntKind.u8 0, Value.int IntKind.u8 0, Value.int IntKind.u8 0, Value.int IntKind.u8 0, Value.int IntKind.u8 0, Value.int IntKind.u8 0, Value.int IntKind.u8 0, Value.int IntKind.u8 0, Value.int IntKind.u8 0, Value.int IntKind.u8 0, Value.int IntKind.u8 0, Value.int IntKind.u8 0, Value.int IntKind.u8 0, Value.int IntKind.u8 0, Value.int IntKind.u8 0, Value.int IntKind.u8 0, Value.int IntKind.u8 0, Value.int IntKind.u8 0, Value.int IntKind.u8 0, Value.int IntKind.u8 0, Value.int IntKind.u8 0, Value.int IntKind.u8 0, Value.int IntKind.u8 0, Value.int IntKind.u8 0, Value.int IntKind.u8 0] 26)).alloc (.cells #[Value.int IntKind.u8 0, Value.int IntKind.u8 0, Value.int IntKind.u8 0, Value.int IntKind.u8 0, Value.int IntKind.u8 0, Value.int IntKind.u8 0, Value.int IntKind.u8 0, Value.int IntKind.u8 0, Value.int IntKind.u8 0, Value.int IntKind.u8 0, Value.int IntKind.u8 0, Value.int IntKind.u8 0, Value.int IntKind.u8 0, Value.int IntKind.u8 0, Value.int IntKind.u8 0, Value.int IntKind.u8 0, Value.int IntKind.u8 0, Value.int IntKind.u8 0, Value.int IntKind.u8 0, Value.int IntKind.u8 0, Value.int IntKind.u8 0, Value.int IntKind.u8 0, Value.int IntKind.u8 0, Value.int IntKind.u8 0, Value.int IntKind.u8 0, Value.int IntKind.u8 0, Value.int IntKind.u8 0] 26)) (w.heap.size + 1) (fun _ => 0)) := by
    have h := row_new (w.alloc (.cells z27 26)) 26
    rw [World.size_alloc] at h
    exact h
  generalize (w.alloc (.cells #[Value.int IntKind.u8 0, Value.int IntKind.u8 0, Value.int IntKind.u8 0, Value.int IntKind.u8 0, Value.int IntKind.u8 0, Value.int IntKind.u8 0, Value.int IntKind.u8 0, Value.int IntKind.u8 0, Value.int IntKind.u8 0, Value.int IntKind.u8 0, Value.int IntKind.u8 0, Value.int IntKind.u8 0, Value.int IntKind.u8 0, Value.int IntKind.u8 0, Value.int IntKind.u8 0, Value.int IntKind.u8 0, Value.int IntKind.u8 0, Value.int IntKind.u8 0, Value.int IntKind.u8 0, Value.int IntKind.u8 0, Value.int IntKind.u8 0, Value.int IntKind.u8 0, Value.int IntKind.u8 0, Value.int IntKind.u8 0, Value.int IntKind.u8 0, Value.int IntKind.u8 0, Value.int IntKind.u8 0] 26)).alloc (.cells #[Value.int IntKind.u8 0, Value.int IntKind.u8 0, Value.int IntKind.u8 0, Value.int IntKind.u8 0, Value.int IntKind.u8 0, Value.int IntKind.u8 0, Value.int IntKind.u8 0, Value.int IntKind.u8 0, Value.int IntKind.u8 0, Value.int IntKind.u8 0, Value.int IntKind.u8 0, Value.int IntKind.u8 0, Value.int IntKind.u8 0, Value.int IntKind.u8 0, Value.int IntKind.u8 0, Value.int IntKind.u8 0, Value.int IntKind.u8 0, Value.int IntKind.u8 0, Value.int IntKind.u8 0, Value.int IntKind.u8 0, Value.int IntKind.u8 0, Value.int IntKind.u8 0, Value.int IntKind.u8 0, Value.int IntKind.u8 0, Value.int IntKind.u8 0, Value.int IntKind.u8 0, Value.int IntKind.u8 0] 26) = w0 at *
  go_loopw [7] (fun i wr => ∃ k : Nat, i = .int .i64 k ∧ k ≤ 216 ∧ Hid (Row27 wr (w.heap.size + 1) (fB b k)) ∧ Below (w.heap.size + 1) w0 wr) (fun i _ => 216 - (intOf i).toNat)
  case atStart => exact ⟨0, rfl, by omega, hR1.out.cong (fun j hj => (fB_zero HY.out j hj).symm), Below.refl _ _⟩
  case round =>
    obtain ⟨k, rfl, hk, hR, hB1⟩ := hrel
    have hB : Below w.heap.size w wr := hB0.trans (hB1.mono (Nat.le_succ _))
    by_cases hlt : k < 216
    · have q1 : (0 : Int) ≤ (k : Int) / 72 := by omega
      have q2 : (k : Int) / 72 < 3 := by omega
      have q3 : ((k : Int) / 72).toNat = k / 72 := by omega
      have vp : vpos k / 8 < 33 := by unfold vpos; split <;> omega
      have vq : vpos k < 1000 := by unfold vpos; split <;> omega
      have M8 : Hid (k / 72 * 9 + k % 72 / 8 = k / 8) := by show _ = _; omega
      have cB : wr.cell? ⟨bb, off + vpos k / 8, none⟩ = some (.int .u8 (b (vpos k / 8) : Int)) := (hB.cell (p := ⟨bb, off + vpos k / 8, none⟩) hbl).trans (HB.out _ vp)
      have cF : wr.cell? ⟨w.heap.size + 1, k / 72 * 9 + k % 72 / 8, none⟩ = some (.int .u8 (fB b k (k / 8) : Int)) := by rw [M8.out]; exact (hR.out (k / 8) (by omega)).1
      have cZ : wr.frozen? ⟨w.heap.size + 1, k / 72 * 9 + k % 72 / 8, none⟩ = false := by rw [M8.out]; exact (hR.out (k / 8) (by omega)).2
      go_wp2_with fail
      go_region_with (first
        | (go_at_call 10; refine (pos_any k _ hlt).mono ?_; rintro e w' ⟨rfl, rfl⟩)
        | (go_at_call 9; refine (get_any bb off 33 33 (vpos k) (b (vpos k / 8)) _ vq vp (HY.out _ vp) (by exact cB)).mono ?_; rintro e w' ⟨rfl, rfl⟩)
        | (go_at_call 8; refine (set_at (w.heap.size + 1) (k / 72 * 9) 9 9 (k % 72) (fB b k (k / 8)) (getB (b (vpos k / 8)) (vpos k)) _ _ (by omega) (by omega) (by omega) (fB_lt HY.out _ _ (by omega)) (getB_lt _ _) (by exact cF) (by exact cZ)).mono ?_; rintro e w' ⟨rfl, rfl⟩))
      go_wp2
      go_roundw
      case rel => exact ⟨k + 1, by go_num, by omega, row_step hR.out M8.out (fB_step HY.out k hlt) hlt, (hB1.setCell (p := ⟨w.heap.size + 1, k / 72 * 9 + k % 72 / 8, none⟩) (Nat.le_refl _) _).drew.drew⟩
      case measure => simp [intOf]; omega
    · have e : k = 216 := by omega
      subst e
      have hR' : Row27 wr (w.heap.size + 1) (vm b) := hR.out.cong fun j hj => fB_full b j hj
      have hZ : Row27 wr w.heap.size (fun _ => 0) := fun j hj => ⟨(hB1.cell (p := ⟨w.heap.size, j, none⟩) (Nat.lt_succ_self _)).trans (hR0.out j hj).1, (hB1.frozen (p := ⟨w.heap.size, j, none⟩) (Nat.lt_succ_self _)).trans (hR0.out j hj).2⟩
      have g1 := row_range hR'
      have g2 := row_there hZ
      clear hR hR0 hR1 hR' hZ hB1
      have G1 := show Hid _ from g1
      have G2 := show Hid _ from g2
      clear g1 g2
      go_upto_region 8 with fail
      refine wp_region_lit ?_
      refine wpList_load_mid rfl 26 (.tmp 3) rfl (w.heap.size + 1) 0 rfl (frL (vm b) 27) _ G1.out Try.underlying26 rfl (by rw [frL_len]; kernel_rfl) ?_
      refine wpList_store_mid rfl 26 (.tmp 2) (.tmp 26) rfl w.heap.size 0 (frL (vm b) 27).toArray rfl rfl (by rw [frL_size]; exact G2.out) (by rw [frL_size]; kernel_rfl) (frL_one _ _) ?_
      apply wpList_nil
      have hB2 := below_setCells w.heap.size (frL (vm b) 27) 0 hB (Nat.le_refl _)
      have HL : Hid ((wr.setCells w.heap.size 0 (frL (vm b) 27)).rangeAt w.heap.size 0 (frL (vm b) 27)) := World.rangeAt_setCells_same _ _ _ _ (by rw [frL_len]; exact G2.out)
      generalize wr.setCells w.heap.size 0 (frL (vm b) 27) = w9 at *
      go_wp2
      refine bodyPost_ret (v := .agg (frL (vm b) 27).toArray) (results_cell_mid rfl _ w9 w.heap.size 0 (frL (vm b) 27) _ rfl HL.out Try.underlying26 rfl (by rw [frL_len]; kernel_rfl)) rfl ⟨rfl, hB2⟩
end Go.Proofs.Qxb6627477a
