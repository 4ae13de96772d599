/-
  Seat b6627498a: plain facts, no Go in sight: ASCII case on bytes, the key, and where strings.IndexFunc finds the first small letter.
-/
import Derived.Lib.DecodeN
import Derived.Shelf.GgClosure.StringsIndexFunc
namespace Go.Proofs.Qxb6627498a.Plain
open Go.Lib

/-- A code point in 'a'..'z'. -/
def lowN (n : Nat) : Bool := decide (97 ≤ n) && decide (n ≤ 122)
/-- A byte made upper case. -/
def upI (n : Int) : Int := if 97 ≤ n ∧ n ≤ 122 then n - 32 else n
/-- A byte made lower case. -/
def loI (n : Int) : Int := if 65 ≤ n ∧ n ≤ 90 then n + 32 else n
def upB (c : UInt8) : UInt8 := if 97 ≤ c.toNat ∧ c.toNat ≤ 122 then UInt8.ofNat (c.toNat - 32) else c
def key (s : ByteArray) : ByteArray := ⟨s.data.map upB⟩

theorem upB_toNat (c : UInt8) : ((upB c).toNat : Int) = upI c.toNat := by
  unfold upB upI
  have := c.toNat_lt
  split
  · rw [if_pos (by omega)]
    simp only [UInt8.toNat_ofNat']
    omega
  · rw [if_neg (by omega)]

theorem lo_up (n : Int) : loI (upI n) = loI n := by
  unfold loI upI
  repeat' split
  all_goals omega

theorem up_lo (n : Int) : upI (loI n) = upI n := by
  unfold loI upI
  repeat' split
  all_goals omega

theorem up_iff (m n : Int) : upI m = upI n ↔ loI m = loI n := by
  constructor
  · intro h
    rw [← lo_up m, ← lo_up n, h]
  · intro h
    rw [← up_lo m, ← up_lo n, h]

theorem up_up (n : Int) : upI (upI n) = upI n := by
  unfold upI
  repeat' split
  all_goals omega

theorem low_up (n : Int) : ¬ (97 ≤ upI n ∧ upI n ≤ 122) := by
  unfold upI
  split
  all_goals omega

theorem key_size (s : ByteArray) : (key s).size = s.size := by
  show (s.data.map upB).size = s.data.size
  exact Array.size_map

theorem get_data (s : ByteArray) (j : Nat) (h : j < s.size) : s.get! j = s[j] := by
  have h' : j < s.data.size := h
  show s.data[j]! = s.data[j]
  exact getElem!_pos s.data j h'

theorem key_get (s : ByteArray) (j : Nat) (h : j < s.size) (h' : j < (key s).size) : (key s)[j] = upB s[j] := by
  have h1 : j < s.data.size := h
  show (s.data.map upB)[j]'(by simpa using h1) = upB s.data[j]
  simp

theorem ext_get {x y : ByteArray} (hs : x.size = y.size) (h : ∀ j (h1 : j < x.size) (h2 : j < y.size), x[j] = y[j]) : x = y := by
  cases x with | mk x => cases y with | mk y =>
  congr 1
  exact Array.ext hs h

theorem key_append (a b : ByteArray) : key (a ++ b) = key a ++ key b := by
  have e : ∀ x y : ByteArray, (x ++ y).data = x.data ++ y.data := fun x y => by simp
  have e2 : ∀ x y : ByteArray, x.data = y.data → x = y := fun x y h => by cases x; cases y; simp_all
  apply e2
  rw [e]
  simp [key]

theorem byte_eq {c d : UInt8} (h : (c.toNat : Int) = d.toNat) : c = d := UInt8.toNat_inj.1 (by omega)

theorem key_key (s : ByteArray) : key (key s) = key s := by
  refine ext_get (by simp [key_size]) fun j h1 h2 => ?_
  have h3 : j < s.size := by simpa [key_size] using h2
  rw [key_get _ j h2 h1, key_get s j h3 h2]
  apply byte_eq
  rw [upB_toNat, upB_toNat, up_up]

/-- No small letter stands in s. -/
def NoLow (s : ByteArray) : Prop := ∀ j (h : j < s.size), ¬ (97 ≤ (s[j].toNat : Int) ∧ (s[j].toNat : Int) ≤ 122)

theorem key_noLow (s : ByteArray) : NoLow (key s) := fun j h => by
  rw [key_get s j (by simpa [key_size] using h) h, upB_toNat]
  exact low_up _

theorem key_of_noLow {s : ByteArray} (h : NoLow s) : key s = s := by
  refine ext_get (key_size s) fun j h1 h2 => ?_
  rw [key_get s j h2 h1]
  apply byte_eq
  rw [upB_toNat, upI, if_neg (h j h2)]

/-- Alike but for ASCII case. -/
def FoldEq (x y : ByteArray) : Prop := x.size = y.size ∧ ∀ j (h1 : j < x.size) (h2 : j < y.size), loI x[j].toNat = loI y[j].toNat

theorem foldEq_key (s : ByteArray) : FoldEq (key s) s := ⟨key_size s, fun j h1 h2 => by
  rw [key_get s j h2 h1, upB_toNat, lo_up]⟩

theorem key_eq_iff (a b : ByteArray) : key a = key b ↔ FoldEq a b := by
  constructor
  · intro h
    have hs : a.size = b.size := by rw [← key_size a, h, key_size]
    refine ⟨hs, fun j h1 h2 => ?_⟩
    have e : upB a[j] = upB b[j] := by
      rw [← key_get a j h1 (by rw [key_size]; exact h1), ← key_get b j h2 (by rw [key_size]; exact h2)]
      simp only [h]
    apply (up_iff _ _).1
    rw [← upB_toNat, ← upB_toNat, e]
  · rintro ⟨hs, h⟩
    refine ext_get (by simp [key_size, hs]) fun j h1 h2 => ?_
    have h3 : j < a.size := by simpa [key_size] using h1
    have h4 : j < b.size := by omega
    rw [key_get a j h3 h1, key_get b j h4 h2]
    apply byte_eq
    rw [upB_toNat, upB_toNat]
    exact (up_iff _ _).2 (h j h3 h4)

/-! ### Where IndexFunc finds the first small letter -/
theorem decodeN_first (n b0 b1 b2 b3 : Nat) (h : lowN (decodeN n b0 b1 b2 b3).1 = false) : lowN b0 = false := by
  by_cases h0 : b0 < 128
  · simp only [decodeN, h0, if_true] at h
    exact h
  · simp [lowN]; omega

theorem decodeN_rest (n b0 b1 b2 b3 : Nat) :
    1 ≤ (decodeN n b0 b1 b2 b3).2 ∧ (1 < (decodeN n b0 b1 b2 b3).2 → 128 ≤ b1) ∧ (2 < (decodeN n b0 b1 b2 b3).2 → 128 ≤ b2) ∧ (3 < (decodeN n b0 b1 b2 b3).2 → 128 ≤ b3) ∧ (decodeN n b0 b1 b2 b3).2 ≤ 4 := by
  unfold decodeN
  repeat' split
  all_goals simp only
  all_goals omega

theorem dec_skip (s : ByteArray) (pos : Nat) (hl : lowN (Utf8.decode s pos).1 = false) : 1 ≤ (Utf8.decode s pos).2 ∧ ∀ j, pos ≤ j → j < pos + (Utf8.decode s pos).2 → lowN (s.get! j).toNat = false := by
  rw [decode_at] at hl ⊢
  have h0 := decodeN_first _ _ _ _ _ hl
  obtain ⟨r1, r2, r3, r4, r5⟩ := decodeN_rest (s.size - pos) (s.get! pos).toNat (s.get! (pos + 1)).toNat (s.get! (pos + 2)).toNat (s.get! (pos + 3)).toNat
  generalize (decodeN (s.size - pos) (s.get! pos).toNat (s.get! (pos + 1)).toNat (s.get! (pos + 2)).toNat (s.get! (pos + 3)).toNat).2 = K at *
  refine ⟨r1, fun j h1 h2 => ?_⟩
  obtain rfl | rfl | rfl | rfl : j = pos ∨ j = pos + 1 ∨ j = pos + 2 ∨ j = pos + 3 := by omega
  · exact h0
  · have := r2 (by omega); simp [lowN]; omega
  · have := r3 (by omega); simp [lowN]; omega
  · have := r4 (by omega); simp [lowN]; omega

theorem idx_from (s : ByteArray) : ∀ (f pos : Nat), s.size ≤ pos + f →
    (idxFuncFrom lowN true s f pos = -1 → ∀ j, pos ≤ j → j < s.size → lowN (s.get! j).toNat = false) ∧
    (∀ n : Nat, idxFuncFrom lowN true s f pos = n → ∀ j, pos ≤ j → j < n → lowN (s.get! j).toNat = false)
  | 0, pos, hf => ⟨fun _ j h1 h2 => by omega, fun n h => by simp [idxFuncFrom] at h⟩
  | f + 1, pos, hf => by
    by_cases hp : pos < s.size
    · cases hl : lowN (Utf8.decode s pos).1
      · obtain ⟨k1, k2⟩ := dec_skip s pos hl
        have ih := idx_from s f (pos + (Utf8.decode s pos).2) (by omega)
        simp only [idxFuncFrom, hp, if_true, hl, Bool.false_eq_true, if_false]
        refine ⟨fun h j h1 h2 => ?_, fun n h j h1 h2 => ?_⟩
        · by_cases hj : j < pos + (Utf8.decode s pos).2
          · exact k2 j h1 hj
          · exact ih.1 h j (by omega) h2
        · by_cases hj : j < pos + (Utf8.decode s pos).2
          · exact k2 j h1 hj
          · exact ih.2 n h j (by omega) h2
      · simp only [idxFuncFrom, hp, if_true, hl]
        exact ⟨fun h => by omega, fun n h j h1 h2 => by omega⟩
    · exact ⟨fun _ j h1 h2 => by omega, fun n h => by simp [idxFuncFrom, hp] at h⟩

theorem notLow {s : ByteArray} {j : Nat} (hj : j < s.size) (h : lowN (s.get! j).toNat = false) : ¬ (97 ≤ (s[j].toNat : Int) ∧ (s[j].toNat : Int) ≤ 122) := by
  rw [get_data s j hj] at h
  simp only [lowN, Bool.and_eq_false_iff, decide_eq_false_iff_not] at h
  omega

theorem idx_none {s : ByteArray} (h : idxFunc lowN true s = -1) : NoLow s := fun j hj =>
  notLow hj ((idx_from s s.size 0 (by omega)).1 h j (Nat.zero_le _) hj)

theorem idx_some {s : ByteArray} {n : Nat} (h : idxFunc lowN true s = n) : ∀ j (hj : j < s.size), j < n → ¬ (97 ≤ (s[j].toNat : Int) ∧ (s[j].toNat : Int) ≤ 122) := fun j hj hn =>
  notLow hj ((idx_from s s.size 0 (by omega)).2 n h j (Nat.zero_le _) hn)
end Go.Proofs.Qxb6627498a.Plain
