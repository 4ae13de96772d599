import Derived.Test.Qxb6627435aRunes
namespace Go.Proofs.Qxb6627435a
open Go.RowKit
set_option linter.unusedVariables false

theorem dec_cast {d : Nat} {z : Int} (n : Nat) (hz : z = n) (h : d = n) : z = (d : Nat) := by rw [h, hz]
theorem ret_dec {s : ByteArray} {k : Nat} {n : Int} {d : Nat} (hd : (Utf8.decode s k).2 = d) (h : (n : Int) = (d : Nat)) : Ending.returned (.int .i64 n) = .returned (.int .i64 ((Utf8.decode s k).2 : Nat)) := by rw [hd, h]

set_option maxHeartbeats 1000000 in
theorem size_one0 (s : ByteArray) (k : Nat) (w : World) (hs : s.size ≤ 1048576) (hk : k < s.size) (c : bAt s k < 128) :
    Calls Try.prog 18 #[.string s, .int .i64 k] w fun e w' => e = .returned (.int .i64 ((Utf8.decode s k).2 : Nat)) ∧ w' = w := by
  have D := show Hid (_ = _) from dec_one s k hk (.inl (by omega))
  rw [bAt_eq s k hk] at c
  have c1 : (s[k].toNat : Int) < 128 := by omega
  have c2 : (s[k].toNat : Int) < 194 := by omega
  clear c
  go_enter Try.func18, Try.ntmps18
  go_wp2_with (go_at_call 19; refine (cont_byte _ _).mono ?_; rintro e w' ⟨rfl, rfl⟩)
  all_goals go_ret
  all_goals exact ⟨ret_dec D.out rfl, rfl⟩

set_option maxHeartbeats 1000000 in
theorem size_one1 (s : ByteArray) (k : Nat) (w : World) (hs : s.size ≤ 1048576) (hk : k < s.size) (c : 128 ≤ bAt s k ∧ bAt s k < 194) :
    Calls Try.prog 18 #[.string s, .int .i64 k] w fun e w' => e = .returned (.int .i64 ((Utf8.decode s k).2 : Nat)) ∧ w' = w := by
  have D := show Hid (_ = _) from dec_one s k hk (.inl (by omega))
  rw [bAt_eq s k hk] at c
  have c1 : 128 ≤ (s[k].toNat : Int) := by omega
  have c2 : (s[k].toNat : Int) < 194 := by omega
  clear c
  go_enter Try.func18, Try.ntmps18
  go_wp2_with (go_at_call 19; refine (cont_byte _ _).mono ?_; rintro e w' ⟨rfl, rfl⟩)
  all_goals go_ret
  all_goals exact ⟨ret_dec D.out rfl, rfl⟩

set_option maxHeartbeats 1000000 in
theorem size_one2 (s : ByteArray) (k : Nat) (w : World) (hs : s.size ≤ 1048576) (hk : k < s.size) (c : 244 < bAt s k) :
    Calls Try.prog 18 #[.string s, .int .i64 k] w fun e w' => e = .returned (.int .i64 ((Utf8.decode s k).2 : Nat)) ∧ w' = w := by
  have D := show Hid (_ = _) from dec_one s k hk (.inr c)
  rw [bAt_eq s k hk] at c
  have c1 : 244 < (s[k].toNat : Int) := by omega
  clear c
  go_enter Try.func18, Try.ntmps18
  go_wp2_with (go_at_call 19; refine (cont_byte _ _).mono ?_; rintro e w' ⟨rfl, rfl⟩)
  all_goals go_ret
  all_goals exact ⟨ret_dec D.out rfl, rfl⟩

set_option maxHeartbeats 1000000 in
theorem size_C2 (s : ByteArray) (k : Nat) (w : World) (hs : s.size ≤ 1048576) (hk : k < s.size) (c : 194 ≤ bAt s k ∧ bAt s k < 224) :
    Calls Try.prog 18 #[.string s, .int .i64 k] w fun e w' => e = .returned (.int .i64 ((Utf8.decode s k).2 : Nat)) ∧ w' = w := by
  have D := show Hid (_ = _) from dec_C2 s k hk c
  rw [bAt_eq s k hk] at c
  have c1 : 194 ≤ (s[k].toNat : Int) := by omega
  have c2 : (s[k].toNat : Int) ≤ 223 := by omega
  clear c
  go_enter Try.func18, Try.ntmps18
  go_wp2_with (go_at_call 19; refine (cont_byte _ _).mono ?_; rintro e w' ⟨rfl, rfl⟩)
  all_goals go_ret
  · exact ⟨ret_dec D.out (dec_cast 2 rfl (dec_two (by omega) (contB_true (by assumption)).1 (contB_true (by assumption)).2)), rfl⟩
  · exact ⟨ret_dec D.out (dec_cast 1 rfl (dec_bad1 (by omega) (by have := contB_false (by assumption); omega))), rfl⟩
  · exact ⟨ret_dec D.out (dec_cast 1 rfl (dec_short (by omega) (by omega))), rfl⟩

set_option maxHeartbeats 1000000 in
theorem size_E0 (s : ByteArray) (k : Nat) (w : World) (hs : s.size ≤ 1048576) (hk : k < s.size) (c : bAt s k = 224) :
    Calls Try.prog 18 #[.string s, .int .i64 k] w fun e w' => e = .returned (.int .i64 ((Utf8.decode s k).2 : Nat)) ∧ w' = w := by
  have D := show Hid (_ = _) from dec_E0 s k hk c
  rw [bAt_eq s k hk] at c
  have c1 : 224 ≤ (s[k].toNat : Int) := by omega
  have c2 : (s[k].toNat : Int) ≤ 224 := by omega
  have q224 : ((s[k].toNat : Int) == 224) = true := by rw [beq_iff_eq]; omega
  have q237 : ((s[k].toNat : Int) == 237) = false := by rw [beq_eq_false_iff_ne]; omega
  have q240 : ((s[k].toNat : Int) == 240) = false := by rw [beq_eq_false_iff_ne]; omega
  have q244 : ((s[k].toNat : Int) == 244) = false := by rw [beq_eq_false_iff_ne]; omega
  clear c
  go_enter Try.func18, Try.ntmps18
  go_wp2_with (go_at_call 19; refine (cont_byte _ _).mono ?_; rintro e w' ⟨rfl, rfl⟩)
  all_goals go_ret
  · exact ⟨ret_dec D.out (dec_cast 3 rfl (dec_three (by omega) (by omega) (by assumption) (by assumption) (by assumption))), rfl⟩
  · exact ⟨ret_dec D.out (dec_cast 1 rfl (dec_bad2 (by omega) (by omega) (by assumption))), rfl⟩
  · exact ⟨ret_dec D.out (dec_cast 1 rfl (dec_bad1 (by omega) (.inr (by assumption)))), rfl⟩
  · exact ⟨ret_dec D.out (dec_cast 1 rfl (dec_bad1 (by omega) (.inl (by assumption)))), rfl⟩
  · exact ⟨ret_dec D.out (dec_cast 1 rfl (dec_short (by omega) (by omega))), rfl⟩

set_option maxHeartbeats 1000000 in
theorem size_E1a (s : ByteArray) (k : Nat) (w : World) (hs : s.size ≤ 1048576) (hk : k < s.size) (c : 225 ≤ bAt s k ∧ bAt s k < 237) :
    Calls Try.prog 18 #[.string s, .int .i64 k] w fun e w' => e = .returned (.int .i64 ((Utf8.decode s k).2 : Nat)) ∧ w' = w := by
  have D := show Hid (_ = _) from dec_E1 s k hk (.inl c)
  rw [bAt_eq s k hk] at c
  have c1 : 225 ≤ (s[k].toNat : Int) := by omega
  have c2 : (s[k].toNat : Int) ≤ 236 := by omega
  have q224 : ((s[k].toNat : Int) == 224) = false := by rw [beq_eq_false_iff_ne]; omega
  have q237 : ((s[k].toNat : Int) == 237) = false := by rw [beq_eq_false_iff_ne]; omega
  have q240 : ((s[k].toNat : Int) == 240) = false := by rw [beq_eq_false_iff_ne]; omega
  have q244 : ((s[k].toNat : Int) == 244) = false := by rw [beq_eq_false_iff_ne]; omega
  clear c
  go_enter Try.func18, Try.ntmps18
  go_wp2_with (go_at_call 19; refine (cont_byte _ _).mono ?_; rintro e w' ⟨rfl, rfl⟩)
  all_goals go_ret
  · exact ⟨ret_dec D.out (dec_cast 3 rfl (dec_three (by omega) (by omega) (by assumption) (by assumption) (by assumption))), rfl⟩
  · exact ⟨ret_dec D.out (dec_cast 1 rfl (dec_bad2 (by omega) (by omega) (by assumption))), rfl⟩
  · exact ⟨ret_dec D.out (dec_cast 1 rfl (dec_bad1 (by omega) (.inr (by assumption)))), rfl⟩
  · exact ⟨ret_dec D.out (dec_cast 1 rfl (dec_bad1 (by omega) (.inl (by assumption)))), rfl⟩
  · exact ⟨ret_dec D.out (dec_cast 1 rfl (dec_short (by omega) (by omega))), rfl⟩

set_option maxHeartbeats 1000000 in
theorem size_ED (s : ByteArray) (k : Nat) (w : World) (hs : s.size ≤ 1048576) (hk : k < s.size) (c : bAt s k = 237) :
    Calls Try.prog 18 #[.string s, .int .i64 k] w fun e w' => e = .returned (.int .i64 ((Utf8.decode s k).2 : Nat)) ∧ w' = w := by
  have D := show Hid (_ = _) from dec_ED s k hk c
  rw [bAt_eq s k hk] at c
  have c1 : 237 ≤ (s[k].toNat : Int) := by omega
  have c2 : (s[k].toNat : Int) ≤ 237 := by omega
  have q224 : ((s[k].toNat : Int) == 224) = false := by rw [beq_eq_false_iff_ne]; omega
  have q237 : ((s[k].toNat : Int) == 237) = true := by rw [beq_iff_eq]; omega
  have q240 : ((s[k].toNat : Int) == 240) = false := by rw [beq_eq_false_iff_ne]; omega
  have q244 : ((s[k].toNat : Int) == 244) = false := by rw [beq_eq_false_iff_ne]; omega
  clear c
  go_enter Try.func18, Try.ntmps18
  go_wp2_with (go_at_call 19; refine (cont_byte _ _).mono ?_; rintro e w' ⟨rfl, rfl⟩)
  all_goals go_ret
  · exact ⟨ret_dec D.out (dec_cast 3 rfl (dec_three (by omega) (by omega) (by assumption) (by assumption) (by assumption))), rfl⟩
  · exact ⟨ret_dec D.out (dec_cast 1 rfl (dec_bad2 (by omega) (by omega) (by assumption))), rfl⟩
  · exact ⟨ret_dec D.out (dec_cast 1 rfl (dec_bad1 (by omega) (.inr (by assumption)))), rfl⟩
  · exact ⟨ret_dec D.out (dec_cast 1 rfl (dec_bad1 (by omega) (.inl (by assumption)))), rfl⟩
  · exact ⟨ret_dec D.out (dec_cast 1 rfl (dec_short (by omega) (by omega))), rfl⟩

set_option maxHeartbeats 1000000 in
theorem size_E1b (s : ByteArray) (k : Nat) (w : World) (hs : s.size ≤ 1048576) (hk : k < s.size) (c : 238 ≤ bAt s k ∧ bAt s k < 240) :
    Calls Try.prog 18 #[.string s, .int .i64 k] w fun e w' => e = .returned (.int .i64 ((Utf8.decode s k).2 : Nat)) ∧ w' = w := by
  have D := show Hid (_ = _) from dec_E1 s k hk (.inr c)
  rw [bAt_eq s k hk] at c
  have c1 : 238 ≤ (s[k].toNat : Int) := by omega
  have c2 : (s[k].toNat : Int) ≤ 239 := by omega
  have q224 : ((s[k].toNat : Int) == 224) = false := by rw [beq_eq_false_iff_ne]; omega
  have q237 : ((s[k].toNat : Int) == 237) = false := by rw [beq_eq_false_iff_ne]; omega
  have q240 : ((s[k].toNat : Int) == 240) = false := by rw [beq_eq_false_iff_ne]; omega
  have q244 : ((s[k].toNat : Int) == 244) = false := by rw [beq_eq_false_iff_ne]; omega
  clear c
  go_enter Try.func18, Try.ntmps18
  go_wp2_with (go_at_call 19; refine (cont_byte _ _).mono ?_; rintro e w' ⟨rfl, rfl⟩)
  all_goals go_ret
  · exact ⟨ret_dec D.out (dec_cast 3 rfl (dec_three (by omega) (by omega) (by assumption) (by assumption) (by assumption))), rfl⟩
  · exact ⟨ret_dec D.out (dec_cast 1 rfl (dec_bad2 (by omega) (by omega) (by assumption))), rfl⟩
  · exact ⟨ret_dec D.out (dec_cast 1 rfl (dec_bad1 (by omega) (.inr (by assumption)))), rfl⟩
  · exact ⟨ret_dec D.out (dec_cast 1 rfl (dec_bad1 (by omega) (.inl (by assumption)))), rfl⟩
  · exact ⟨ret_dec D.out (dec_cast 1 rfl (dec_short (by omega) (by omega))), rfl⟩

set_option maxHeartbeats 1000000 in
theorem size_F0 (s : ByteArray) (k : Nat) (w : World) (hs : s.size ≤ 1048576) (hk : k < s.size) (c : bAt s k = 240) :
    Calls Try.prog 18 #[.string s, .int .i64 k] w fun e w' => e = .returned (.int .i64 ((Utf8.decode s k).2 : Nat)) ∧ w' = w := by
  have D := show Hid (_ = _) from dec_F0 s k hk c
  rw [bAt_eq s k hk] at c
  have c1 : 240 ≤ (s[k].toNat : Int) := by omega
  have c2 : (s[k].toNat : Int) ≤ 240 := by omega
  have q224 : ((s[k].toNat : Int) == 224) = false := by rw [beq_eq_false_iff_ne]; omega
  have q237 : ((s[k].toNat : Int) == 237) = false := by rw [beq_eq_false_iff_ne]; omega
  have q240 : ((s[k].toNat : Int) == 240) = true := by rw [beq_iff_eq]; omega
  have q244 : ((s[k].toNat : Int) == 244) = false := by rw [beq_eq_false_iff_ne]; omega
  clear c
  go_enter Try.func18, Try.ntmps18
  go_wp2_with (go_at_call 19; refine (cont_byte _ _).mono ?_; rintro e w' ⟨rfl, rfl⟩)
  all_goals go_ret
  · exact ⟨ret_dec D.out (dec_cast 4 rfl (dec_four (by omega) (by omega) (by omega) (by assumption) (by assumption) (by assumption) (by assumption))), rfl⟩
  · exact ⟨ret_dec D.out (dec_cast 1 rfl (dec_bad3 (by omega) (by omega) (by assumption))), rfl⟩
  · exact ⟨ret_dec D.out (dec_cast 1 rfl (dec_bad2 (by omega) (by omega) (by simpa using (by assumption : ¬ contB _ = true)))), rfl⟩
  · exact ⟨ret_dec D.out (dec_cast 1 rfl (dec_bad1 (by omega) (.inr (by assumption)))), rfl⟩
  · exact ⟨ret_dec D.out (dec_cast 1 rfl (dec_bad1 (by omega) (.inl (by assumption)))), rfl⟩
  · exact ⟨ret_dec D.out (dec_cast 1 rfl (dec_short (by omega) (by omega))), rfl⟩

set_option maxHeartbeats 1000000 in
theorem size_F1 (s : ByteArray) (k : Nat) (w : World) (hs : s.size ≤ 1048576) (hk : k < s.size) (c : 241 ≤ bAt s k ∧ bAt s k < 244) :
    Calls Try.prog 18 #[.string s, .int .i64 k] w fun e w' => e = .returned (.int .i64 ((Utf8.decode s k).2 : Nat)) ∧ w' = w := by
  have D := show Hid (_ = _) from dec_F1 s k hk c
  rw [bAt_eq s k hk] at c
  have c1 : 241 ≤ (s[k].toNat : Int) := by omega
  have c2 : (s[k].toNat : Int) ≤ 243 := by omega
  have q224 : ((s[k].toNat : Int) == 224) = false := by rw [beq_eq_false_iff_ne]; omega
  have q237 : ((s[k].toNat : Int) == 237) = false := by rw [beq_eq_false_iff_ne]; omega
  have q240 : ((s[k].toNat : Int) == 240) = false := by rw [beq_eq_false_iff_ne]; omega
  have q244 : ((s[k].toNat : Int) == 244) = false := by rw [beq_eq_false_iff_ne]; omega
  clear c
  go_enter Try.func18, Try.ntmps18
  go_wp2_with (go_at_call 19; refine (cont_byte _ _).mono ?_; rintro e w' ⟨rfl, rfl⟩)
  all_goals go_ret
  · exact ⟨ret_dec D.out (dec_cast 4 rfl (dec_four (by omega) (by omega) (by omega) (by assumption) (by assumption) (by assumption) (by assumption))), rfl⟩
  · exact ⟨ret_dec D.out (dec_cast 1 rfl (dec_bad3 (by omega) (by omega) (by assumption))), rfl⟩
  · exact ⟨ret_dec D.out (dec_cast 1 rfl (dec_bad2 (by omega) (by omega) (by simpa using (by assumption : ¬ contB _ = true)))), rfl⟩
  · exact ⟨ret_dec D.out (dec_cast 1 rfl (dec_bad1 (by omega) (.inr (by assumption)))), rfl⟩
  · exact ⟨ret_dec D.out (dec_cast 1 rfl (dec_bad1 (by omega) (.inl (by assumption)))), rfl⟩
  · exact ⟨ret_dec D.out (dec_cast 1 rfl (dec_short (by omega) (by omega))), rfl⟩

set_option maxHeartbeats 1000000 in
theorem size_F4 (s : ByteArray) (k : Nat) (w : World) (hs : s.size ≤ 1048576) (hk : k < s.size) (c : bAt s k = 244) :
    Calls Try.prog 18 #[.string s, .int .i64 k] w fun e w' => e = .returned (.int .i64 ((Utf8.decode s k).2 : Nat)) ∧ w' = w := by
  have D := show Hid (_ = _) from dec_F4 s k hk c
  rw [bAt_eq s k hk] at c
  have c1 : 244 ≤ (s[k].toNat : Int) := by omega
  have c2 : (s[k].toNat : Int) ≤ 244 := by omega
  have q224 : ((s[k].toNat : Int) == 224) = false := by rw [beq_eq_false_iff_ne]; omega
  have q237 : ((s[k].toNat : Int) == 237) = false := by rw [beq_eq_false_iff_ne]; omega
  have q240 : ((s[k].toNat : Int) == 240) = false := by rw [beq_eq_false_iff_ne]; omega
  have q244 : ((s[k].toNat : Int) == 244) = true := by rw [beq_iff_eq]; omega
  clear c
  go_enter Try.func18, Try.ntmps18
  go_wp2_with (go_at_call 19; refine (cont_byte _ _).mono ?_; rintro e w' ⟨rfl, rfl⟩)
  all_goals go_ret
  · exact ⟨ret_dec D.out (dec_cast 4 rfl (dec_four (by omega) (by omega) (by omega) (by assumption) (by assumption) (by assumption) (by assumption))), rfl⟩
  · exact ⟨ret_dec D.out (dec_cast 1 rfl (dec_bad3 (by omega) (by omega) (by assumption))), rfl⟩
  · exact ⟨ret_dec D.out (dec_cast 1 rfl (dec_bad2 (by omega) (by omega) (by simpa using (by assumption : ¬ contB _ = true)))), rfl⟩
  · exact ⟨ret_dec D.out (dec_cast 1 rfl (dec_bad1 (by omega) (.inr (by assumption)))), rfl⟩
  · exact ⟨ret_dec D.out (dec_cast 1 rfl (dec_bad1 (by omega) (.inl (by assumption)))), rfl⟩
  · exact ⟨ret_dec D.out (dec_cast 1 rfl (dec_short (by omega) (by omega))), rfl⟩

theorem runeSize_any (s : ByteArray) (k : Nat) (w : World) (hs : s.size ≤ 1048576) (hk : k < s.size) :
    Calls Try.prog 18 #[.string s, .int .i64 k] w fun e w' => e = .returned (.int .i64 ((Utf8.decode s k).2 : Nat)) ∧ w' = w := by
  by_cases h0 : bAt s k < 128
  · exact size_one0 s k w hs hk h0
  by_cases h1 : bAt s k < 194
  · exact size_one1 s k w hs hk (by omega)
  by_cases h2 : 244 < bAt s k
  · exact size_one2 s k w hs hk h2
  by_cases h3 : bAt s k < 224
  · exact size_C2 s k w hs hk (by omega)
  by_cases h4 : bAt s k = 224
  · exact size_E0 s k w hs hk h4
  by_cases h5 : bAt s k < 237
  · exact size_E1a s k w hs hk (by omega)
  by_cases h6 : bAt s k = 237
  · exact size_ED s k w hs hk h6
  by_cases h7 : bAt s k < 240
  · exact size_E1b s k w hs hk (by omega)
  by_cases h8 : bAt s k = 240
  · exact size_F0 s k w hs hk h8
  by_cases h9 : bAt s k = 244
  · exact size_F4 s k w hs hk h9
  · exact size_F1 s k w hs hk (by omega)
end Go.Proofs.Qxb6627435a
