import Derived.Test.Qxb6627435aSegs
namespace Go.Proofs.Qxb6627435a
open Go.RowKit
set_option linter.unusedVariables false

theorem Try.info47 : (Try.prog.info? 47).map (fun i => (i.zero, i.size, i.bytes)) = some (some (.agg #[.bool false, .int .i64 0, .int .i64 0, .string ByteArray.empty]), 4, 40) := by kernel_rfl

def cells4 (g : Sg) : List Value := [.bool g.orig, .int .i64 g.a, .int .i64 g.n, .string g.s]
/-- The cells of stretches, four each. -/
def flat4 : List Sg → List Value
  | [] => []
  | g :: l => .bool g.orig :: .int .i64 g.a :: .int .i64 g.n :: .string g.s :: flat4 l
theorem flat4_len : ∀ T : List Sg, (flat4 T).length = T.length * 4
  | [] => rfl
  | g :: l => by simp only [flat4, List.length_cons, flat4_len l]; omega
theorem flat4_app : ∀ T R : List Sg, flat4 (T ++ R) = flat4 T ++ flat4 R
  | [], R => rfl
  | g :: l, R => by simp only [List.cons_append, flat4, flat4_app l R]
theorem flat4_snoc (T : List Sg) (g : Sg) : flat4 (T ++ [g]) = flat4 T ++ [.bool g.orig, .int .i64 g.a, .int .i64 g.n, .string g.s] := by rw [flat4_app]; rfl
theorem flat4_get : ∀ (T : List Sg) (j : Nat) (h : j < T.length), (flat4 T)[j * 4]? = some (.bool T[j].orig) ∧ (flat4 T)[j * 4 + 1]? = some (.int .i64 T[j].a) ∧ (flat4 T)[j * 4 + 2]? = some (.int .i64 T[j].n) ∧ (flat4 T)[j * 4 + 3]? = some (.string T[j].s)
  | g :: l, 0, _ => ⟨rfl, rfl, rfl, rfl⟩
  | g :: l, j + 1, h => by
    have := flat4_get l j (by simpa using h)
    have e : (j + 1) * 4 = j * 4 + 4 := by omega
    rw [e]
    exact this

/-- v holds the stretches T, in rows from block B on. -/
def OwnsS (w : World) (B : Nat) (v : Value) (T : List Sg) : Prop := w.ownsRow B 47 4 v T.length (flat4 T)
theorem OwnsS.grown {w w' : World} {B : Nat} {v : Value} {T : List Sg} {row : Option Nat} (h : OwnsS w B v T) (hg : w.grownBy w' row) (hne : v.ownBlock = none ∨ v.ownBlock ≠ row) : OwnsS w' B v T := World.ownsRow.kept h hg hne
theorem OwnsS.below {w w' : World} {B : Nat} {v : Value} {T : List Sg} (h : OwnsS w B v T) (hb : Below w.heap.size w w') : OwnsS w' B v T := by
  refine World.ownsRow.kept (row := none) h ⟨hb.os, hb.tape, hb.output, hb.size, fun k hk _ => hb.block k hk⟩ ?_
  cases hv : v.ownBlock
  · exact .inl rfl
  · exact .inr (by simp)
/-- What v, that holds T, is, and where its stretches lie. -/
theorem OwnsS.shape {w : World} {B : Nat} {v : Value} {T : List Sg} (h : OwnsS w B v T) : ∃ po cap, v = .slice po T.length cap ∧ (∀ w', OwnsS w' B v T → ∀ j (hj : j < T.length), ∃ g, po = some ⟨g, 0, none⟩ ∧
    w'.cell? ⟨g, j * 4, none⟩ = some (.bool T[j].orig) ∧ w'.cell? ⟨g, j * 4 + 1, none⟩ = some (.int .i64 T[j].a) ∧ w'.cell? ⟨g, j * 4 + 2, none⟩ = some (.int .i64 T[j].n) ∧ w'.cell? ⟨g, j * 4 + 3, none⟩ = some (.string T[j].s)) := by
  rcases h.2 with ⟨h', h0⟩ | ⟨g, cap, cur, h', _⟩
  · exact ⟨none, 0, by rw [h', h0], fun w' _ j hj => by omega⟩
  · refine ⟨some ⟨g, 0, none⟩, cap, h', fun w' hw j hj => ⟨g, rfl, ?_⟩⟩
    rw [h'] at hw
    have L := flat4_len T
    obtain ⟨f0, f1, f2, f3⟩ := flat4_get T j hj
    exact ⟨by rw [World.ownsRow.cellAt hw _ (by omega), f0], by rw [World.ownsRow.cellAt hw _ (by omega), f1], by rw [World.ownsRow.cellAt hw _ (by omega), f2], by rw [World.ownsRow.cellAt hw _ (by omega), f3]⟩

/-- What an append of one stretch leaves: the stretch more; every old block but the row's own stands. -/
def Put (w : World) (B : Nat) (v : Value) (T : List Sg) (g : Sg) (e : Ending) (w' : World) : Prop := ∃ v', e = .returned v' ∧ OwnsS w' B v' (T ++ [g]) ∧ w.grownBy w' v.ownBlock

theorem grown_alloc {w w1 w' : World} {row : Option Nat} (h1 : Below w.heap.size w w1) (h2 : w1.grownBy w' row) : w.grownBy w' row :=
  ⟨h2.os.trans h1.os, h2.tape.trans h1.tape, h2.output.trans h1.output, Nat.le_trans h1.size h2.size, fun k hk hr => (h2.block k (Nat.lt_of_lt_of_le hk h1.size) hr).trans (h1.block k hk)⟩

theorem put_close {w w1 w' : World} {B : Nat} {v v' : Value} {T : List Sg} {g : Sg} (h1 : Below w.heap.size w w1) (ho : w'.ownsRow B 47 4 v' (T.length + 1) (flat4 T ++ [.bool g.orig, .int .i64 g.a, .int .i64 g.n, .string g.s])) (hg : w1.grownBy w' v.ownBlock) : Put w B v T g (.returned v') w' :=
  ⟨v', rfl, by unfold OwnsS; rw [flat4_snoc]; simpa using ho, grown_alloc h1 hg⟩

theorem news4 (W : World) (b : Nat) (c : List Value) (t : TypeId) (hb : b = W.heap.size) : ∀ j u, c[j]? = some u → (W.alloc (.cells c.toArray t)).cell? ((⟨b, 0, none⟩ : Addr).add j) = some u := fun j u hj => by
  have e : (⟨b, 0, none⟩ : Addr).add j = ⟨b, j, none⟩ := by simp [Addr.add]; omega
  rw [e, World.cell?_alloc_at _ _ _ _ hb]
  simpa using hj
theorem one4 (o : Bool) (a n : Int) (s : ByteArray) : ∀ u ∈ [Value.bool o, .int .i64 a, .int .i64 n, .string s], u.oneCell' = true := by
  intro u hu
  simp only [List.mem_cons, List.not_mem_nil, or_false] at hu
  rcases hu with rfl | rfl | rfl | rfl <;> rfl

set_option maxHeartbeats 1000000 in
theorem put_ins (v : Value) (T : List Sg) (s : ByteArray) (a n : Int) (w : World) (B : Nat) (hB : B ≤ w.heap.size) (hown : OwnsS w B v T) (hT : T.length ≤ 1048576) :
    Calls Try.prog 17 #[v, .agg #[.bool false, .int .i64 a, .int .i64 n, .string s]] w fun e w' => Put w B v T ⟨false, a, n, s⟩ e w' := by
  obtain ⟨i0, hi, hz0, hz1, hz2⟩ := info_parts Try.info47
  have hown2 : ∀ o1 o2, ((w.alloc o1).alloc o2).ownsRow B 47 4 v T.length (flat4 T) := fun o1 o2 => (hown.below ((Below.refl _ _).alloc (Nat.le_refl _) o1)).below ((Below.refl _ _).alloc (Nat.le_refl _) o2)
  have hb2 : ∀ o1 o2, Below w.heap.size w ((w.alloc o1).alloc o2) := fun o1 o2 => ((Below.refl _ w).alloc (Nat.le_refl _) o1).alloc (by simp) o2
  go_enter Try.func17, Try.ntmps17
  go_wp2_with (at_builtin; refine wpList_append_own _ rfl (.tmp 43) (.tmp 45) 33 rfl B 47 i0 (.agg #[.bool false, .int .i64 0, .int .i64 0, .string ByteArray.empty]) 4 40 Try.underlying33 hi hz0 hz1 hz2 rfl (by decide) _ _ _ rfl (hown2 _ _) ⟨w.heap.size + 1, 0, none⟩ 1 1 [.bool false, .int .i64 a, .int .i64 n, .string s] rfl rfl ?c1 ?c2 ?c3 ?c4 ?c5 ?_)
  case c1 => exact news4 _ _ _ _ (by simp)
  case c2 => exact one4 _ _ _ _
  case c3 => unfold maxLen; omega
  case c4 => omega
  case c5 => simp; omega
  intro v' w1 ho hg _
  go_wp2
  go_ret
  exact put_close (hb2 _ _) ho hg

set_option maxHeartbeats 1000000 in
theorem put_keep0 (v : Value) (s : ByteArray) (a n : Int) (w : World) (B : Nat) (hB : B ≤ w.heap.size) (hown : OwnsS w B v []) :
    Calls Try.prog 17 #[v, .agg #[.bool true, .int .i64 a, .int .i64 n, .string s]] w fun e w' => Put w B v [] ⟨true, a, n, s⟩ e w' := by
  obtain ⟨po, cap, rfl, _⟩ := hown.shape
  obtain ⟨i0, hi, hz0, hz1, hz2⟩ := info_parts Try.info47
  have hown2 : ∀ o1 o2, ((w.alloc o1).alloc o2).ownsRow B 47 4 (.slice po 0 cap) 0 (flat4 []) := fun o1 o2 => (hown.below ((Below.refl _ _).alloc (Nat.le_refl _) o1)).below ((Below.refl _ _).alloc (Nat.le_refl _) o2)
  have hb2 : ∀ o1 o2, Below w.heap.size w ((w.alloc o1).alloc o2) := fun o1 o2 => ((Below.refl _ w).alloc (Nat.le_refl _) o1).alloc (by simp) o2
  show Calls Try.prog 17 #[.slice po 0 cap, _] w _
  go_enter Try.func17, Try.ntmps17
  go_wp2_with (at_builtin; refine wpList_append_own _ rfl (.tmp 43) (.tmp 45) 33 rfl B 47 i0 (.agg #[.bool false, .int .i64 0, .int .i64 0, .string ByteArray.empty]) 4 40 Try.underlying33 hi hz0 hz1 hz2 rfl (by decide) _ _ _ rfl (hown2 _ _) ⟨w.heap.size + 1, 0, none⟩ 1 1 [.bool true, .int .i64 a, .int .i64 n, .string s] rfl rfl ?c1 ?c2 ?c3 ?c4 ?c5 ?_)
  case c1 => exact news4 _ _ _ _ (by simp)
  case c2 => exact one4 _ _ _ _
  case c3 => unfold maxLen; omega
  case c4 => omega
  case c5 => simp; omega
  intro v' w1 ho hg _
  go_wp2
  go_ret
  exact put_close (T := []) (hb2 _ _) ho hg

set_option maxHeartbeats 1000000 in
theorem put_keep1 (v : Value) (T : List Sg) (l : Sg) (s : ByteArray) (a n : Int) (w : World) (B : Nat) (hB : B ≤ w.heap.size) (hown : OwnsS w B v (T ++ [l])) (hT : T.length ≤ 1048576) (hj : NoJoin (T ++ [l]) ⟨true, a, n, s⟩) :
    Calls Try.prog 17 #[v, .agg #[.bool true, .int .i64 a, .int .i64 n, .string s]] w fun e w' => Put w B v (T ++ [l]) ⟨true, a, n, s⟩ e w' := by
  obtain ⟨po, cap, rfl, hat⟩ := hown.shape
  obtain ⟨g, rfl, f0, f1, f2, f3⟩ := hat w hown T.length (by simp)
  have el : (T ++ [l]).length = T.length + 1 := by simp
  have eg : (T ++ [l])[T.length]'(by simp) = l := by simp
  rw [eg] at f0 f1 f2 f3
  have hgl : g < w.heap.size := cell_lt f0
  clear hat
  have hjj := hj T l rfl rfl
  obtain ⟨i0, hi, hz0, hz1, hz2⟩ := info_parts Try.info47
  have hown3 : ∀ o1 o2 o3, (((w.alloc o1).alloc o2).alloc o3).ownsRow B 47 4 (.slice (some ⟨g, 0, none⟩) (T.length + 1) cap) (T.length + 1) (flat4 (T ++ [l])) := fun o1 o2 o3 => by
    have h := ((hown.below ((Below.refl _ _).alloc (Nat.le_refl _) o1)).below ((Below.refl _ _).alloc (Nat.le_refl _) o2)).below ((Below.refl _ _).alloc (Nat.le_refl _) o3)
    unfold OwnsS at h
    rw [el] at h
    exact h
  have hb3 : ∀ o1 o2 o3, Below w.heap.size w (((w.alloc o1).alloc o2).alloc o3) := fun o1 o2 o3 => (((Below.refl _ w).alloc (Nat.le_refl _) o1).alloc (by simp) o2).alloc (by simp; omega) o3
  have hclose : ∀ v' w1 W, Below w.heap.size w W → w1.ownsRow B 47 4 v' (T.length + 1 + 1) (flat4 (T ++ [l]) ++ [.bool true, .int .i64 a, .int .i64 n, .string s]) → W.grownBy w1 (some g) → Put w B (.slice (some ⟨g, 0, none⟩) (T ++ [l]).length cap) (T ++ [l]) ⟨true, a, n, s⟩ (.returned v') w1 := fun v' w1 W h1 h2 h3 => put_close h1 (by rw [el]; exact h2) h3
  have HCl := show Hid _ from hclose
  clear hclose hown hj
  rw [el]
  clear el eg
  obtain ⟨lo, la, ln, ls⟩ := l
  simp only at f0 f1 f2 f3 hjj
  generalize T.length = d at *
  cases lo
  · clear hjj
    go_enter Try.func17, Try.ntmps17
    go_wp2_with (at_builtin; refine wpList_append_own _ rfl (.tmp 43) (.tmp 45) 33 rfl B 47 i0 (.agg #[.bool false, .int .i64 0, .int .i64 0, .string ByteArray.empty]) 4 40 Try.underlying33 hi hz0 hz1 hz2 rfl (by decide) _ _ _ rfl (hown3 _ _ _) ⟨w.heap.size + 2, 0, none⟩ 1 1 [.bool true, .int .i64 a, .int .i64 n, .string s] rfl rfl ?c1 ?c2 ?c3 ?c4 ?c5 ?_)
    case c1 => exact news4 _ _ _ _ (by simp)
    case c2 => exact one4 _ _ _ _
    case c3 => unfold maxLen; omega
    case c4 => omega
    case c5 => simp; omega
    intro v' w1 ho hg _
    go_wp2
    go_ret
    exact HCl.out _ _ _ (hb3 _ _ _) ho hg
  · obtain ⟨j1, j2, j3, j4⟩ := hjj rfl
    have q : (la + ln == a) = false := by rw [beq_eq_false_iff_ne]; exact j4
    clear hjj j4
    go_enter Try.func17, Try.ntmps17
    go_wp2_with (at_builtin; refine wpList_append_own _ rfl (.tmp 43) (.tmp 45) 33 rfl B 47 i0 (.agg #[.bool false, .int .i64 0, .int .i64 0, .string ByteArray.empty]) 4 40 Try.underlying33 hi hz0 hz1 hz2 rfl (by decide) _ _ _ rfl (hown3 _ _ _) ⟨w.heap.size + 2, 0, none⟩ 1 1 [.bool true, .int .i64 a, .int .i64 n, .string s] rfl rfl ?e1 ?e2 ?e3 ?e4 ?e5 ?_)
    case e1 => exact news4 _ _ _ _ (by simp)
    case e2 => exact one4 _ _ _ _
    case e3 => unfold maxLen; omega
    case e4 => omega
    case e5 => simp; omega
    intro v' w1 ho hg _
    go_wp2
    go_ret
    exact HCl.out _ _ _ (hb3 _ _ _) ho hg

theorem put_keep (v : Value) (T : List Sg) (s : ByteArray) (a n : Int) (w : World) (B : Nat) (hB : B ≤ w.heap.size) (hown : OwnsS w B v T) (hT : T.length ≤ 1048576) (hj : NoJoin T ⟨true, a, n, s⟩) :
    Calls Try.prog 17 #[v, .agg #[.bool true, .int .i64 a, .int .i64 n, .string s]] w fun e w' => Put w B v T ⟨true, a, n, s⟩ e w' := by
  rcases List.eq_nil_or_concat T with rfl | ⟨T', l, rfl⟩
  · exact put_keep0 v s a n w B hB hown
  · rw [List.concat_eq_append] at *
    exact put_keep1 v T' l s a n w B hB hown (by simp at hT; omega) hj
end Go.Proofs.Qxb6627435a
