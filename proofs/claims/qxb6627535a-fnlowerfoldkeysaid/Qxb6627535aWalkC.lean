import Derived.Test.Qxb6627535aWalkA
import Derived.Below
namespace Go.Proofs.Qxb6627535a
open Go.RowKit
open Plain (loI loB low NoUp FoldEq)
set_option linter.unusedVariables false

/-- The bytes behind the first k are as they were; those ahead are lower case. -/
def loTo (s : ByteArray) (k j : Nat) : Int := if j < k then loI (s.get! j).toNat else (s.get! j).toNat

theorem loTo_here (s : ByteArray) (k : Nat) : loTo s k k = ((s.get! k).toNat : Int) := by simp [loTo]
theorem loTo_start {s : ByteArray} {n j : Nat} (h : ∀ j (hj : j < s.size), j < n → ¬ (65 ≤ (s[j].toNat : Int) ∧ (s[j].toNat : Int) ≤ 90)) (hj : j < s.size) : loTo s n j = (s[j].toNat : Int) := by
  unfold loTo
  rw [Plain.get_data s j hj]
  split
  · rw [loI, if_neg (h j hj (by assumption))]
  · rfl
theorem loTo_next {s : ByteArray} {k j : Nat} (h : j ≠ k) : loTo s (k + 1) j = loTo s k j := by
  unfold loTo
  by_cases h1 : j < k
  · rw [if_pos (by omega), if_pos h1]
  · rw [if_neg (by omega), if_neg h1]
theorem loTo_done {s : ByteArray} {k : Nat} : loTo s (k + 1) k = loI (s.get! k).toNat := by simp [loTo]

theorem step_cells {s : ByteArray} {wr : World} {g k : Nat} {c : Int} (h : ∀ j, j < s.size → wr.cell? ⟨g, j, none⟩ = some (.int .u8 (loTo s k j))) (hk : k < s.size) (e : c = loI (s.get! k).toNat) :
    Hid (∀ j, j < s.size → (wr.setCell ⟨g, k, none⟩ (.int .u8 c)).cell? ⟨g, j, none⟩ = some (.int .u8 (loTo s (k + 1) j))) := fun j hj => by
  by_cases hjk : j = k
  · subst hjk
    rw [World.cell?_setCell_same' _ _ _ (by rw [h j hj]; rfl), loTo_done, e]
  · rw [World.cell?_setCell_other _ _ _ _ (by simp), loTo_next hjk]
    exact h j hj
theorem step_frozen {s : ByteArray} {wr : World} {g k : Nat} {v : Value} (h : ∀ j, j < s.size → wr.frozen? ⟨g, j, none⟩ = false) :
    Hid (∀ j, j < s.size → (wr.setCell ⟨g, k, none⟩ v).frozen? ⟨g, j, none⟩ = false) := fun j hj => by
  rw [World.frozen?_setCell]
  exact h j hj
theorem end_cells {s : ByteArray} {wr : World} {g k : Nat} (h : ∀ j, j < s.size → wr.cell? ⟨g, j, none⟩ = some (.int .u8 (loTo s k j))) (hk : s.size ≤ k) :
    ∀ j (hj : j < (low s).data.toList.length), wr.cell? ((⟨g, 0, none⟩ : Addr).add j) = some (.int .u8 ((low s).data.toList[j].toNat : Int)) := fun j hj => by
  have hj' : j < s.size := by
    have e := Plain.low_size s
    have hj2 : j < (low s).size := hj
    omega
  have e : (low s).data.toList[j] = loB s[j] := by
    simp [low]
    rfl
  have e2 : (⟨g, 0, none⟩ : Addr).add j = ⟨g, j, none⟩ := by simp [Addr.add]; omega
  rw [e, e2, h j hj', Plain.loB_toNat, loTo, if_pos (by omega), Plain.get_data s j hj']

set_option maxHeartbeats 1000000 in
set_option maxRecDepth 1000000 in
theorem lower_str (s : ByteArray) (w1 : World) (hs : s.size ≤ maxLen) :
    Calls Try.prog 6 #[.string s] w1 fun e w' => e = .returned (.string (low s)) ∧ Below w1.heap.size w1 w' := by
  unfold maxLen at hs
  have hconv := fun (W : World) => run_bytes_of_string (P := Try.prog) W 9 25 5 s Try.underlying9 Try.underlying25 Try.underlying5
  go_enter Try.func6, Try.ntmps6
  go_wp2
  go_loop [3] (fun i => ∃ n : Nat, n ≤ s.size ∧ i = .int .i64 n ∧ Hid (∀ j (hj : j < s.size), j < n → ¬ (65 ≤ (s[j].toNat : Int) ∧ (s[j].toNat : Int) ≤ 90))) (fun i => s.size - (intOf i).toNat)
  case atStart => exact ⟨0, Nat.zero_le _, rfl, fun j _ h => by omega⟩
  case round =>
    obtain ⟨n, hk, rfl, HN⟩ := hrel
    by_cases hlt : n < s.size
    · by_cases hup : 65 ≤ (s[n].toNat : Int) ∧ (s[n].toNat : Int) ≤ 90
      · have hcap : s.size ≤ grownCap w1 s.size 0 5 := grownCap_ge w1 s.size 0 5
        have C := fun W => isUp_yes (s[n].toNat : Int) W hup.1 hup.2
        clear hup
        go_wp2_with (go_at_call 10; refine (C _).mono ?_; rintro e w' ⟨rfl, hw'⟩; obtain rfl := hw'.symm)
        have hsz : (bytesRow s (grownCap w1 s.size 0 5)).size = grownCap w1 s.size 0 5 := by
          have e : s.data.size = s.size := rfl
          simp [bytesRow, e]; omega
        have HC : Hid (∀ j, j < s.size → (w1.alloc (Obj.cells (bytesRow s (grownCap w1 s.size 0 5)) 5 ((bytesRow s (grownCap w1 s.size 0 5)).size, (bytesRow s (grownCap w1 s.size 0 5)).size + 1))).drew.cell? ⟨w1.heap.size, j, none⟩ = some (.int .u8 (loTo s n j))) := fun j hj => by
          refine (World.cell?_alloc_mark w1 _ 5 _ j).trans ?_
          rw [bytesRow_at s _ j hj, loTo_start HN.out hj]
          rfl
        have HF : Hid (∀ j, j < s.size → (w1.alloc (Obj.cells (bytesRow s (grownCap w1 s.size 0 5)) 5 ((bytesRow s (grownCap w1 s.size 0 5)).size, (bytesRow s (grownCap w1 s.size 0 5)).size + 1))).drew.frozen? ⟨w1.heap.size, j, none⟩ = false) := fun j hj => by
          refine (World.frozen?_alloc_mark w1 _ 5 _ _ j).trans ?_
          rw [hsz]
          simp; omega
        have HB : Below w1.heap.size w1 (w1.alloc (Obj.cells (bytesRow s (grownCap w1 s.size 0 5)) 5 ((bytesRow s (grownCap w1 s.size 0 5)).size, (bytesRow s (grownCap w1 s.size 0 5)).size + 1))).drew := ((Below.refl _ w1).alloc (Nat.le_refl _) _).drew
        clear hsz hconv HN C
        generalize (w1.alloc (Obj.cells (bytesRow s (grownCap w1 s.size 0 5)) 5 ((bytesRow s (grownCap w1 s.size 0 5)).size, (bytesRow s (grownCap w1 s.size 0 5)).size + 1))).drew = w2 at *
        generalize grownCap w1 s.size 0 5 = cap at *
        go_loopw [5] (fun i wr => ∃ k : Nat, k ≤ s.size ∧ i = .int .i64 k ∧ Hid (∀ j, j < s.size → wr.cell? ⟨w1.heap.size, j, none⟩ = some (.int .u8 (loTo s k j))) ∧ Hid (∀ j, j < s.size → wr.frozen? ⟨w1.heap.size, j, none⟩ = false) ∧ Below w1.heap.size w1 wr) (fun i _ => s.size - (intOf i).toNat)
        case atStart => exact ⟨n, by omega, rfl, HC, HF, HB⟩
        case round =>
          obtain ⟨k, hk, rfl, hc, hf, hbel⟩ := hrel
          by_cases hlt : k < s.size
          · have hck := hc.out k hlt
            have hfk := hf.out k hlt
            rw [loTo_here] at hck
            have c0 : (0 : Int) ≤ ((s.get! k).toNat : Int) := by omega
            have c1 : ((s.get! k).toNat : Int) ≤ 255 := by have := (s.get! k).toNat_lt; omega
            obtain ⟨c, hcc⟩ : ∃ c : Int, c = ((s.get! k).toNat : Int) := ⟨_, rfl⟩
            rw [← hcc] at hck c0 c1
            have HCC : Hid (c = ((s.get! k).toNat : Int)) := hcc
            clear hcc
            go_wp2_with (go_at_call 11; refine (lower_any c _ c0 c1).mono ?_; rintro e w' ⟨rfl, hw'⟩; obtain rfl := hw'.symm)
            go_roundw
            case rel => exact ⟨k + 1, by omega, by go_num, step_cells hc.out hlt (by rw [← HCC.out]), step_frozen hf.out, hbel.setCell (Nat.le_refl _) _⟩
            case measure => simp [intOf]; omega
          · have hback := run_convert_bytes_back (P := Try.prog) wr 25 9 5 ⟨w1.heap.size, 0, none⟩ cap (low s).data.toList Try.underlying25 Try.underlying5 Try.underlying9 (end_cells hc.out (by omega))
            have el : (low s).data.toList.length = s.size := by have := Plain.low_size s; exact this
            rw [el] at hback
            clear el
            go_wp2
            go_ret
            exact ⟨rfl, hbel⟩
      · have C := fun W => isUp_no (s[n].toNat : Int) W hup
        have HU : Hid (¬ (65 ≤ (s[n].toNat : Int) ∧ (s[n].toNat : Int) ≤ 90)) := hup
        clear hup
        go_wp2_with (go_at_call 10; refine (C _).mono ?_; rintro e w' ⟨rfl, hw'⟩; obtain rfl := hw'.symm)
        go_round
        case rel => exact ⟨n + 1, by omega, by go_num, fun j hj h => by
          by_cases e' : j = n
          · subst e'; exact HU.out
          · exact HN.out j hj (by omega)⟩
        case measure => simp [intOf]; omega
    · have E : Hid (low s = s) := Plain.low_of_noUp fun j hj => HN.out j hj (by omega)
      go_wp2
      go_ret
      exact ⟨by rw [E.out]; rfl, Below.refl _ _⟩
end Go.Proofs.Qxb6627535a
