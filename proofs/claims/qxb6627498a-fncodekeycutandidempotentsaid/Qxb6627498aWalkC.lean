import Derived.Test.Qxb6627498aWalkB
namespace Go.Proofs.Qxb6627498a
open Go.RowKit Go.Lib
open Plain (upI loI upB key NoLow FoldEq lowN)
set_option linter.unusedVariables false

set_option maxHeartbeats 400000 in
theorem codeKey_none (s : ByteArray) (w : World) (hs : s.size ≤ maxLen) (hn : Lib.idxFunc lowN true s = -1) :
    Calls Try.prog 6 #[.string s] w fun e w' => e = .returned (.string (key s)) ∧ Below w.heap.size w w' := by
  rw [Plain.key_of_noLow (Plain.idx_none hn)]
  have hC := idx_calls s w
  rw [hn] at hC
  clear hn
  go_enter Try.func6, Try.ntmps6
  go_wp2_with (go_at_call 10; refine hC.mono ?_; rintro e w' ⟨rfl, hb⟩)
  go_ret
  exact ⟨rfl, hb⟩

/-- The bytes behind the first k are as they were; those ahead are upper case. -/
def upTo (s : ByteArray) (k j : Nat) : Int := if j < k then upI (s.get! j).toNat else (s.get! j).toNat

theorem upTo_here (s : ByteArray) (k : Nat) : upTo s k k = ((s.get! k).toNat : Int) := by simp [upTo]
theorem upTo_start {s : ByteArray} {n j : Nat} (h : ∀ j (hj : j < s.size), j < n → ¬ (97 ≤ (s[j].toNat : Int) ∧ (s[j].toNat : Int) ≤ 122)) (hj : j < s.size) : upTo s n j = (s[j].toNat : Int) := by
  unfold upTo
  rw [Plain.get_data s j hj]
  split
  · rw [upI, if_neg (h j hj (by assumption))]
  · rfl
theorem upTo_next {s : ByteArray} {k j : Nat} (h : j ≠ k) : upTo s (k + 1) j = upTo s k j := by
  unfold upTo
  by_cases h1 : j < k
  · rw [if_pos (by omega), if_pos h1]
  · rw [if_neg (by omega), if_neg h1]
theorem upTo_done {s : ByteArray} {k : Nat} : upTo s (k + 1) k = upI (s.get! k).toNat := by simp [upTo]

theorem step_cells {s : ByteArray} {wr : World} {g k : Nat} {c : Int} (h : ∀ j, j < s.size → wr.cell? ⟨g, j, none⟩ = some (.int .u8 (upTo s k j))) (hk : k < s.size) (e : c = upI (s.get! k).toNat) :
    Hid (∀ j, j < s.size → (wr.setCell ⟨g, k, none⟩ (.int .u8 c)).cell? ⟨g, j, none⟩ = some (.int .u8 (upTo s (k + 1) j))) := fun j hj => by
  by_cases hjk : j = k
  · subst hjk
    rw [World.cell?_setCell_same' _ _ _ (by rw [h j hj]; rfl), upTo_done, e]
  · rw [World.cell?_setCell_other _ _ _ _ (by simp), upTo_next hjk]
    exact h j hj
theorem step_same {s : ByteArray} {wr : World} {g k : Nat} (h : ∀ j, j < s.size → wr.cell? ⟨g, j, none⟩ = some (.int .u8 (upTo s k j))) (e : ((s.get! k).toNat : Int) = upI (s.get! k).toNat) :
    Hid (∀ j, j < s.size → wr.cell? ⟨g, j, none⟩ = some (.int .u8 (upTo s (k + 1) j))) := fun j hj => by
  by_cases hjk : j = k
  · subst hjk
    rw [h j hj, upTo_here, upTo_done, ← e]
  · rw [upTo_next hjk]
    exact h j hj
theorem step_frozen {s : ByteArray} {wr : World} {g k : Nat} {v : Value} (h : ∀ j, j < s.size → wr.frozen? ⟨g, j, none⟩ = false) :
    Hid (∀ j, j < s.size → (wr.setCell ⟨g, k, none⟩ v).frozen? ⟨g, j, none⟩ = false) := fun j hj => by
  rw [World.frozen?_setCell]
  exact h j hj
theorem end_cells {s : ByteArray} {wr : World} {g k : Nat} (h : ∀ j, j < s.size → wr.cell? ⟨g, j, none⟩ = some (.int .u8 (upTo s k j))) (hk : s.size ≤ k) :
    ∀ j (hj : j < (key s).data.toList.length), wr.cell? ((⟨g, 0, none⟩ : Addr).add j) = some (.int .u8 ((key s).data.toList[j].toNat : Int)) := fun j hj => by
  have hj' : j < s.size := by
    have e := Plain.key_size s
    have hj2 : j < (key s).size := hj
    omega
  have e : (key s).data.toList[j] = upB s[j] := by
    simp [key]
    rfl
  have e2 : (⟨g, 0, none⟩ : Addr).add j = ⟨g, j, none⟩ := by simp [Addr.add]; omega
  rw [e, e2, h j hj', Plain.upB_toNat, upTo, if_pos (by omega), Plain.get_data s j hj']

set_option maxHeartbeats 1000000 in
set_option maxRecDepth 1000000 in
theorem codeKey_some (s : ByteArray) (w : World) (hs : s.size ≤ maxLen) (n : Nat) (hn : Lib.idxFunc lowN true s = n) :
    Calls Try.prog 6 #[.string s] w fun e w' => e = .returned (.string (key s)) ∧ Below w.heap.size w w' := by
  unfold maxLen at hs
  have hr := Lib.idxFunc_range lowN true s
  have hlt : n < s.size := by omega
  have HN : Hid (∀ j (hj : j < s.size), j < n → ¬ (97 ≤ (s[j].toNat : Int) ∧ (s[j].toNat : Int) ≤ 122)) := Plain.idx_some hn
  have hC := idx_calls s w
  rw [hn] at hC
  clear hn hr
  have hconv := fun (W : World) => run_bytes_of_string (P := Try.prog) W 9 27 5 s Try.underlying9 Try.underlying27 Try.underlying5
  go_enter Try.func6, Try.ntmps6
  go_wp2_with (go_at_call 10; refine hC.mono ?_; rintro e w1 ⟨rfl, hb⟩)
  have hcap : s.size ≤ grownCap w1 s.size 0 5 := grownCap_ge w1 s.size 0 5
  have hsz : (bytesRow s (grownCap w1 s.size 0 5)).size = grownCap w1 s.size 0 5 := by
    have e : s.data.size = s.size := rfl
    simp [bytesRow, e]; omega
  have HC : Hid (∀ j, j < s.size → (w1.alloc (Obj.cells (bytesRow s (grownCap w1 s.size 0 5)) 5 ((bytesRow s (grownCap w1 s.size 0 5)).size, (bytesRow s (grownCap w1 s.size 0 5)).size + 1))).drew.cell? ⟨w1.heap.size, j, none⟩ = some (.int .u8 (upTo s n j))) := fun j hj => by
    refine (World.cell?_alloc_mark w1 _ 5 _ j).trans ?_
    rw [bytesRow_at s _ j hj, upTo_start HN.out hj]
    rfl
  have HF : Hid (∀ j, j < s.size → (w1.alloc (Obj.cells (bytesRow s (grownCap w1 s.size 0 5)) 5 ((bytesRow s (grownCap w1 s.size 0 5)).size, (bytesRow s (grownCap w1 s.size 0 5)).size + 1))).drew.frozen? ⟨w1.heap.size, j, none⟩ = false) := fun j hj => by
    refine (World.frozen?_alloc_mark w1 _ 5 _ _ j).trans ?_
    rw [hsz]
    simp; omega
  have HB : Below w1.heap.size w1 (w1.alloc (Obj.cells (bytesRow s (grownCap w1 s.size 0 5)) 5 ((bytesRow s (grownCap w1 s.size 0 5)).size, (bytesRow s (grownCap w1 s.size 0 5)).size + 1))).drew := ((Below.refl _ w1).alloc (Nat.le_refl _) _).drew
  clear hsz hconv hC HN
  generalize (w1.alloc (Obj.cells (bytesRow s (grownCap w1 s.size 0 5)) 5 ((bytesRow s (grownCap w1 s.size 0 5)).size, (bytesRow s (grownCap w1 s.size 0 5)).size + 1))).drew = w2 at *
  generalize grownCap w1 s.size 0 5 = cap at *
  go_loopw [3] (fun i wr => ∃ k : Nat, k ≤ s.size ∧ i = .int .i64 k ∧ Hid (∀ j, j < s.size → wr.cell? ⟨w1.heap.size, j, none⟩ = some (.int .u8 (upTo s k j))) ∧ Hid (∀ j, j < s.size → wr.frozen? ⟨w1.heap.size, j, none⟩ = false) ∧ Below w1.heap.size w1 wr) (fun i _ => s.size - (intOf i).toNat)
  case atStart => exact ⟨n, by omega, rfl, HC, HF, HB⟩
  case round =>
    obtain ⟨k, hk, rfl, hc, hf, hbel⟩ := hrel
    by_cases hlt : k < s.size
    · have hck := hc.out k hlt
      have hfk := hf.out k hlt
      rw [upTo_here] at hck
      have c0 : (0 : Int) ≤ ((s.get! k).toNat : Int) := by omega
      have c1 : ((s.get! k).toNat : Int) ≤ 255 := by have := (s.get! k).toNat_lt; omega
      obtain ⟨c, hcc⟩ : ∃ c : Int, c = ((s.get! k).toNat : Int) := ⟨_, rfl⟩
      rw [← hcc] at hck c0 c1
      have HCC : Hid (c = ((s.get! k).toNat : Int)) := hcc
      clear hcc
      by_cases h1 : 97 ≤ c <;> by_cases h2 : c ≤ 122
      · go_wp2
        go_roundw
        case rel => exact ⟨k + 1, by omega, by go_num, step_cells hc.out hlt (by rw [← HCC.out, upI, if_pos ⟨h1, h2⟩]), step_frozen hf.out, hbel.setCell (Nat.le_refl _) _⟩
        case measure => simp [intOf]; omega
      · go_wp2
        go_roundw
        case rel => exact ⟨k + 1, by omega, by go_num, step_same hc.out (by rw [← HCC.out, upI, if_neg (by omega)]), hf, hbel⟩
        case measure => simp [intOf]; omega
      · go_wp2
        go_roundw
        case rel => exact ⟨k + 1, by omega, by go_num, step_same hc.out (by rw [← HCC.out, upI, if_neg (by omega)]), hf, hbel⟩
        case measure => simp [intOf]; omega
      · exfalso; omega
    · have hback := run_convert_bytes_back (P := Try.prog) wr 27 9 5 ⟨w1.heap.size, 0, none⟩ cap (key s).data.toList Try.underlying27 Try.underlying5 Try.underlying9 (end_cells hc.out (by omega))
      have el : (key s).data.toList.length = s.size := by have := Plain.key_size s; exact this
      rw [el] at hback
      clear el
      go_wp2
      go_ret
      exact ⟨rfl, hb.trans (hbel.mono hb.size)⟩

theorem codeKey_any (s : ByteArray) (w : World) (hs : s.size ≤ maxLen) :
    Calls Try.prog 6 #[.string s] w fun e w' => e = .returned (.string (key s)) ∧ Below w.heap.size w w' := by
  rcases Lib.idxFunc_range lowN true s with h | ⟨h1, h2⟩
  · exact codeKey_none s w hs h
  · exact codeKey_some s w hs _ (Int.toNat_of_nonneg h1).symm
end Go.Proofs.Qxb6627498a
