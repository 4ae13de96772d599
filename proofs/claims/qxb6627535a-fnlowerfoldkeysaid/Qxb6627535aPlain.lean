/-
  Seat b6627535a: plain facts, no Go in sight: ASCII lower case on bytes and strings.
-/
import Derived.WalkKit
namespace Go.Proofs.Qxb6627535a.Plain

/-- A byte made lower case. -/
def loI (n : Int) : Int := if 65 ≤ n ∧ n ≤ 90 then n + 32 else n
def loB (c : UInt8) : UInt8 := if 65 ≤ c.toNat ∧ c.toNat ≤ 90 then UInt8.ofNat (c.toNat + 32) else c
def low (s : ByteArray) : ByteArray := ⟨s.data.map loB⟩

theorem loB_toNat (c : UInt8) : ((loB c).toNat : Int) = loI c.toNat := by
  unfold loB loI
  have := c.toNat_lt
  split
  · rw [if_pos (by omega)]
    simp only [UInt8.toNat_ofNat']
    omega
  · rw [if_neg (by omega)]
theorem lo_lo (n : Int) : loI (loI n) = loI n := by
  unfold loI
  repeat' split
  all_goals omega
theorem low_size (s : ByteArray) : (low s).size = s.size := by
  show (s.data.map loB).size = s.data.size
  exact Array.size_map
theorem get_data (s : ByteArray) (j : Nat) (h : j < s.size) : s.get! j = s[j] := by
  have h' : j < s.data.size := h
  show s.data[j]! = s.data[j]
  exact getElem!_pos s.data j h'
theorem low_get (s : ByteArray) (j : Nat) (h : j < s.size) (h' : j < (low s).size) : (low s)[j] = loB s[j] := by
  have h1 : j < s.data.size := h
  show (s.data.map loB)[j]'(by simpa using h1) = loB s.data[j]
  simp
theorem ext_get {x y : ByteArray} (hs : x.size = y.size) (h : ∀ j (h1 : j < x.size) (h2 : j < y.size), x[j] = y[j]) : x = y := by
  cases x with | mk x => cases y with | mk y =>
  congr 1
  exact Array.ext hs h
theorem low_append (a b : ByteArray) : low (a ++ b) = low a ++ low b := by
  have e : ∀ x y : ByteArray, (x ++ y).data = x.data ++ y.data := fun x y => by simp
  have e2 : ∀ x y : ByteArray, x.data = y.data → x = y := fun x y h => by cases x; cases y; simp_all
  apply e2
  rw [e]
  simp [low]
theorem byte_eq {c d : UInt8} (h : (c.toNat : Int) = d.toNat) : c = d := UInt8.toNat_inj.1 (by omega)

/-- No capital letter stands in s. -/
def NoUp (s : ByteArray) : Prop := ∀ j (h : j < s.size), ¬ (65 ≤ (s[j].toNat : Int) ∧ (s[j].toNat : Int) ≤ 90)
theorem low_of_noUp {s : ByteArray} (h : NoUp s) : low s = s := by
  refine ext_get (low_size s) fun j h1 h2 => ?_
  rw [low_get s j h2 h1]
  apply byte_eq
  rw [loB_toNat, loI, if_neg (h j h2)]

/-- Alike but for ASCII case. -/
def FoldEq (x y : ByteArray) : Prop := x.size = y.size ∧ ∀ j (h1 : j < x.size) (h2 : j < y.size), loI x[j].toNat = loI y[j].toNat
theorem foldEq_low (s : ByteArray) : FoldEq (low s) s := ⟨low_size s, fun j h1 h2 => by
  rw [low_get s j h2 h1, loB_toNat, lo_lo]⟩
theorem low_eq_iff (a b : ByteArray) : low a = low b ↔ FoldEq a b := by
  constructor
  · intro h
    have hs : a.size = b.size := by rw [← low_size a, h, low_size]
    refine ⟨hs, fun j h1 h2 => ?_⟩
    have e : loB a[j] = loB b[j] := by
      rw [← low_get a j h1 (by rw [low_size]; exact h1), ← low_get b j h2 (by rw [low_size]; exact h2)]
      simp only [h]
    rw [← loB_toNat, ← loB_toNat, e]
  · rintro ⟨hs, h⟩
    refine ext_get (by simp [low_size, hs]) fun j h1 h2 => ?_
    have h3 : j < a.size := by simpa [low_size] using h1
    have h4 : j < b.size := by omega
    rw [low_get a j h3 h1, low_get b j h4 h2]
    apply byte_eq
    rw [loB_toNat, loB_toNat]
    exact h j h3 h4

/-! ### Case by bit 32 -/
theorem flip_all : ∀ a, a < 256 → 97 ≤ a ||| 32 → a ||| 32 ≤ 122 → (if 65 ≤ a ∧ a ≤ 90 then a + 32 else a) = (if 65 ≤ a ^^^ 32 ∧ a ^^^ 32 ≤ 90 then (a ^^^ 32) + 32 else a ^^^ 32) := by decide +kernel
theorem up_all : ∀ a, a < 256 → 65 ≤ a → a ≤ 90 → a ^^^ (a + 32) = 32 ∧ (a + 32) ^^^ a = 32 ∧ 97 ≤ a ||| 32 ∧ a ||| 32 ≤ 122 ∧ (a + 32) ||| 32 = a + 32 := by decide +kernel
theorem loI_nat (a : Nat) : loI (a : Int) = ((if 65 ≤ a ∧ a ≤ 90 then a + 32 else a : Nat) : Int) := by
  unfold loI
  by_cases h : 65 ≤ a ∧ a ≤ 90
  · rw [if_pos h, if_pos (by omega)]; rfl
  · rw [if_neg h, if_neg (by omega)]
/-- What zzFoldEqualASCII asks of two bytes. -/
def Alike (a b : Nat) : Prop := a = b ∨ (a ^^^ b = 32 ∧ 97 ≤ a ||| 32 ∧ a ||| 32 ≤ 122)
theorem alike_iff (a b : Nat) (ha : a < 256) (hb : b < 256) : Alike a b ↔ loI a = loI b := by
  constructor
  · rintro (rfl | ⟨h1, h2, h3⟩)
    · rfl
    · have e : b = a ^^^ 32 := by
        rw [← h1, ← Nat.xor_assoc, Nat.xor_self, Nat.zero_xor]
      rw [loI_nat, loI_nat, e, flip_all a ha h2 h3]
  · intro h
    by_cases e : a = b
    · exact .inl e
    · right
      unfold loI at h
      by_cases h1 : 65 ≤ a ∧ a ≤ 90
      · rw [if_pos (by omega)] at h
        have hb' : b = a + 32 := by
          split at h <;> omega
        obtain ⟨q1, q2, q3, q4, q5⟩ := up_all a ha h1.1 h1.2
        rw [hb']
        exact ⟨q1, q3, q4⟩
      · rw [if_neg (by omega)] at h
        have hb' : (65 ≤ b ∧ b ≤ 90) ∧ a = b + 32 := by
          split at h <;> omega
        obtain ⟨q1, q2, q3, q4, q5⟩ := up_all b hb hb'.1.1 hb'.1.2
        rw [hb'.2]
        exact ⟨q2, by rw [q5]; omega, by rw [q5]; omega⟩
end Go.Proofs.Qxb6627535a.Plain
