import Derived.Test.Qxb6627435aCount
namespace Go.Proofs.Qxb6627435a
open Go.RowKit
set_option linter.unusedVariables false

/-- The cells from p on hold vs, one after another. -/
def Reads (w : World) (p : Option Addr) (vs : List Value) : Prop :=
  ∀ j (h : j < vs.length), ∃ b off, p = some ⟨b, off, none⟩ ∧ w.cell? ⟨b, off + j, none⟩ = some vs[j]

theorem cell_lt {w : World} {a : Addr} {v : Value} (h : w.cell? a = some v) : a.block < w.heap.size := by
  by_cases hb : a.block < w.heap.size
  · exact hb
  · exfalso
    have e : w.heap[a.block]? = none := by simp; omega
    unfold World.cell? at h
    rw [e] at h
    simp at h

theorem Reads.below {w w' : World} {p : Option Addr} {vs : List Value} (h : Reads w p vs) (hb : Below w.heap.size w w') : Reads w' p vs := fun j hj => by
  obtain ⟨b, off, hp, hc⟩ := h j hj
  exact ⟨b, off, hp, (hb.cell (cell_lt hc)).trans hc⟩

def ints (l : List Int) : List Value := l.map (Value.int .i64)
def strs (l : List ByteArray) : List Value := l.map Value.string
theorem ints_len (l : List Int) : (ints l).length = l.length := by simp [ints]
theorem strs_len (l : List ByteArray) : (strs l).length = l.length := by simp [strs]

theorem Reads.int {w : World} {p : Option Addr} {l : List Int} (h : Reads w p (ints l)) (j : Nat) (hj : j < l.length) : ∃ b off, p = some ⟨b, off, none⟩ ∧ w.cell? ⟨b, off + j, none⟩ = some (.int .i64 l[j]) := by
  obtain ⟨b, off, hp, hc⟩ := h j (by rw [ints_len]; exact hj)
  exact ⟨b, off, hp, by rw [hc]; simp [ints]⟩
theorem Reads.str {w : World} {p : Option Addr} {l : List ByteArray} (h : Reads w p (strs l)) (j : Nat) (hj : j < l.length) : ∃ b off, p = some ⟨b, off, none⟩ ∧ w.cell? ⟨b, off + j, none⟩ = some (.string l[j]) := by
  obtain ⟨b, off, hp, hc⟩ := h j (by rw [strs_len]; exact hj)
  exact ⟨b, off, hp, by rw [hc]; simp [strs]⟩

/-- A bool came back, and true only if P. -/
def BoolImp (P : Prop) (e : Ending) : Prop := ∃ r, e = .returned (.bool r) ∧ (r = true → P)
/-- No text is longer than 2^20 bytes, of the first k. -/
def Short (ss : List ByteArray) (k : Nat) : Prop := ∀ j, j < k → ss[j]!.size ≤ 1048576

set_option maxHeartbeats 400000 in
theorem bytes13 (p q : Option Addr) (n cn cm : Nat) (ss : List ByteArray) (w : World) (hn : n ≤ 9223372036854775807) (hm : ss.length ≤ 9223372036854775807) (hq : Reads w q (strs ss)) (hss : ∀ s ∈ ss, s.size ≤ maxLen) :
    Calls Try.prog 13 #[.slice p n cn, .slice q ss.length cm] w fun e w' => BoolImp (Short ss ss.length) e ∧ w' = w := by
  have HQ : Hid (Reads w q (strs ss)) := hq
  have HS : Hid (∀ s ∈ ss, s.size ≤ maxLen) := hss
  clear hq hss
  generalize hmm : ss.length = m at *
  have HM : Hid (ss.length = m) := hmm
  clear hmm
  by_cases h1 : 1048576 < n
  · go_enter Try.func13, Try.ntmps13
    go_wp2
    go_ret
    exact ⟨⟨false, rfl, fun h => by cases h⟩, rfl⟩
  by_cases h2 : 1048576 < m
  · go_enter Try.func13, Try.ntmps13
    go_wp2
    go_ret
    exact ⟨⟨false, rfl, fun h => by cases h⟩, rfl⟩
  by_cases h3 : 1048576 < n + m
  · go_enter Try.func13, Try.ntmps13
    go_wp2
    go_ret
    exact ⟨⟨false, rfl, fun h => by cases h⟩, rfl⟩
  go_enter Try.func13, Try.ntmps13
  go_wp2
  go_loop [5, 6] (fun t i => ∃ k z : Nat, t = .int .i64 z ∧ i = .int .i64 k ∧ k ≤ m ∧ z ≤ 1048576 ∧ Hid (Short ss k)) (fun _ i => m - (intOf i).toNat)
  case atStart => exact ⟨0, n + m, by go_num, rfl, by omega, by omega, fun j h => by omega⟩
  case round =>
    obtain ⟨k, z, rfl, rfl, hk, hz, hJ⟩ := hrel
    by_cases hlt : k < m
    · obtain ⟨b, off, rfl, hc⟩ := Reads.str HQ.out k (by have := HM.out; omega)
      have hb := HS.out ss[k]! (by rw [getElem!_pos ss k (by have := HM.out; omega)]; exact List.getElem_mem _)
      have e : ss[k]! = ss[k]'(by have := HM.out; omega) := getElem!_pos ss k (by have := HM.out; omega)
      rw [← e] at hc
      obtain ⟨s, hs⟩ : ∃ s, ss[k]! = s := ⟨_, rfl⟩
      have HS1 : Hid (ss[k]! = s) := hs
      rw [hs] at hc hb
      clear e hs
      unfold maxLen at hb
      by_cases h4 : s.size ≤ 1048576
      · by_cases h5 : z + s.size ≤ 1048576
        · go_wp2
          go_round
          case rel => exact ⟨k + 1, z + s.size, by go_num, by go_num, by omega, by omega, fun j hj => by
            by_cases e : j = k
            · subst e; rw [HS1.out]; exact h4
            · exact hJ.out j (by omega)⟩
          case measure => simp [intOf]; omega
        · go_wp2
          go_ret
          exact ⟨⟨false, rfl, fun h => by cases h⟩, rfl⟩
      · go_wp2
        go_ret
        exact ⟨⟨false, rfl, fun h => by cases h⟩, rfl⟩
    · go_wp2
      go_ret
      exact ⟨⟨true, rfl, fun _ => fun j hj => hJ.out j (by have := HM.out; omega)⟩, rfl⟩

set_option maxHeartbeats 400000 in
theorem bytes5 (p q : Option Addr) (n cn cm : Nat) (ss : List ByteArray) (w : World) (hn : n ≤ 9223372036854775807) (hm : ss.length ≤ 9223372036854775807) (hq : Reads w q (strs ss)) (hss : ∀ s ∈ ss, s.size ≤ maxLen) :
    Calls Try.prog 5 #[.slice p n cn, .slice q ss.length cm] w fun e w' => BoolImp (Short ss ss.length) e ∧ w' = w := by
  have HQ : Hid (Reads w q (strs ss)) := hq
  have HS : Hid (∀ s ∈ ss, s.size ≤ maxLen) := hss
  clear hq hss
  generalize hmm : ss.length = m at *
  have HM : Hid (ss.length = m) := hmm
  clear hmm
  by_cases h1 : 1048576 < n
  · go_enter Try.func5, Try.ntmps5
    go_wp2
    go_ret
    exact ⟨⟨false, rfl, fun h => by cases h⟩, rfl⟩
  by_cases h2 : 1048576 < m
  · go_enter Try.func5, Try.ntmps5
    go_wp2
    go_ret
    exact ⟨⟨false, rfl, fun h => by cases h⟩, rfl⟩
  by_cases h3 : 1048576 < n + m
  · go_enter Try.func5, Try.ntmps5
    go_wp2
    go_ret
    exact ⟨⟨false, rfl, fun h => by cases h⟩, rfl⟩
  go_enter Try.func5, Try.ntmps5
  go_wp2
  go_loop [5, 6] (fun t i => ∃ k z : Nat, t = .int .i64 z ∧ i = .int .i64 k ∧ k ≤ m ∧ z ≤ 1048576 ∧ Hid (Short ss k)) (fun _ i => m - (intOf i).toNat)
  case atStart => exact ⟨0, n + m, by go_num, rfl, by omega, by omega, fun j h => by omega⟩
  case round =>
    obtain ⟨k, z, rfl, rfl, hk, hz, hJ⟩ := hrel
    by_cases hlt : k < m
    · obtain ⟨b, off, rfl, hc⟩ := Reads.str HQ.out k (by have := HM.out; omega)
      have hb := HS.out ss[k]! (by rw [getElem!_pos ss k (by have := HM.out; omega)]; exact List.getElem_mem _)
      have e : ss[k]! = ss[k]'(by have := HM.out; omega) := getElem!_pos ss k (by have := HM.out; omega)
      rw [← e] at hc
      obtain ⟨s, hs⟩ : ∃ s, ss[k]! = s := ⟨_, rfl⟩
      have HS1 : Hid (ss[k]! = s) := hs
      rw [hs] at hc hb
      clear e hs
      unfold maxLen at hb
      by_cases h4 : s.size ≤ 1048576
      · by_cases h5 : z + s.size ≤ 1048576
        · go_wp2
          go_round
          case rel => exact ⟨k + 1, z + s.size, by go_num, by go_num, by omega, by omega, fun j hj => by
            by_cases e : j = k
            · subst e; rw [HS1.out]; exact h4
            · exact hJ.out j (by omega)⟩
          case measure => simp [intOf]; omega
        · go_wp2
          go_ret
          exact ⟨⟨false, rfl, fun h => by cases h⟩, rfl⟩
      · go_wp2
        go_ret
        exact ⟨⟨false, rfl, fun h => by cases h⟩, rfl⟩
    · go_wp2
      go_ret
      exact ⟨⟨true, rfl, fun _ => fun j hj => hJ.out j (by have := HM.out; omega)⟩, rfl⟩
end Go.Proofs.Qxb6627435a
