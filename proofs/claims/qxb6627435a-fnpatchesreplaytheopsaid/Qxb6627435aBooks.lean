import Derived.Test.Qxb6627435aNewOp
namespace Go.Proofs.Qxb6627435a
open Go.RowKit
set_option linter.unusedVariables false

/-- A patch. -/
structure Pt where
  pos : Int
  del : Int
  ins : ByteArray
def rc (s : ByteArray) : Int := (Lib.runeCount s : Nat)
/-- What Patches holds: the patches that are done, the one in the making, the position. -/
structure Pst where
  done : List Pt
  cur : Option Pt
  pos : Int
def Pst.ps (st : Pst) : List Pt := st.done ++ st.cur.toList
def stepP (st : Pst) (x : Int) (s : ByteArray) : Pst :=
  match st.cur with
  | none => if 0 < x then ⟨st.done, none, st.pos + x⟩ else ⟨st.done, some ⟨st.pos, 0 - x, ByteArray.empty ++ s⟩, st.pos⟩
  | some p => if 0 < x then ⟨st.done ++ [p], none, st.pos + rc p.ins + x⟩ else ⟨st.done, some ⟨p.pos, p.del - x, p.ins ++ s⟩, st.pos⟩
def patTo (ns : List Int) (ss : List ByteArray) : Nat → Pst
  | 0 => ⟨[], none, 0⟩
  | k + 1 => stepP (patTo ns ss k) ns[k]! ss[k]!

def sumD : List Pt → Int
  | [] => 0
  | p :: l => p.del + sumD l
def sumR : List Pt → Int
  | [] => 0
  | p :: l => rc p.ins + sumR l
theorem sumD_snoc (l : List Pt) (p : Pt) : sumD (l ++ [p]) = sumD l + p.del := by
  induction l with
  | nil => simp [sumD]
  | cons q l ih => simp only [List.cons_append, sumD, ih]; omega
theorem sumR_snoc (l : List Pt) (p : Pt) : sumR (l ++ [p]) = sumR l + rc p.ins := by
  induction l with
  | nil => simp [sumR]
  | cons q l ih => simp only [List.cons_append, sumR, ih]; omega
def fits (L : Int) (p : Pt) : Prop := 0 ≤ p.pos ∧ p.pos ≤ L ∧ 0 ≤ p.del ∧ p.del ≤ L - p.pos
def okB (B : Int) (P : List Pt) : Prop := ∀ j (h : j < P.length), fits (B - sumD (P.take j) + sumR (P.take j)) P[j]
theorem okB_snoc {B : Int} {P : List Pt} {p : Pt} (h : okB B P) (hp : fits (B - sumD P + sumR P) p) : okB B (P ++ [p]) := fun j hj => by
  by_cases e : j < P.length
  · rw [List.take_append_of_le_length (by omega), List.getElem_append_left e]
    exact h j e
  · have e2 : j = P.length := by simp at hj; omega
    subst e2
    simpa using hp

/-! ### The law's own counts -/
def keepTo (ns : List Int) : Nat → Int
  | 0 => 0
  | k + 1 => keepTo ns k + (if 0 < ns[k]! then ns[k]! else 0)
def delsTo (ns : List Int) : Nat → Int
  | 0 => 0
  | k + 1 => delsTo ns k - (if ns[k]! < 0 then ns[k]! else 0)
def insTo (ns : List Int) (ss : List ByteArray) : Nat → Int
  | 0 => 0
  | k + 1 => insTo ns ss k + (if ns[k]! = 0 then rc ss[k]! else 0)
def runsTo (ns : List Int) : Nat → Nat
  | 0 => 0
  | k + 1 => runsTo ns k + (if ns[k]! ≤ 0 ∧ (k = 0 ∨ 0 < ns[k - 1]!) then 1 else 0)
theorem base_split (ns : List Int) : ∀ k, baseTo ns k = keepTo ns k + delsTo ns k
  | 0 => rfl
  | k + 1 => by
    have := base_split ns k
    simp only [baseTo, keepTo, delsTo]
    repeat' split
    all_goals omega
theorem tgt_split (ns : List Int) (ss : List ByteArray) : ∀ k, tgtTo ns ss k = keepTo ns k + insTo ns ss k
  | 0 => rfl
  | k + 1 => by
    have := tgt_split ns ss k
    simp only [tgtTo, keepTo, insTo, gain, rc]
    repeat' split
    all_goals omega
theorem base_mono (ns : List Int) (k : Nat) : ∀ m, baseTo ns k ≤ baseTo ns (k + m)
  | 0 => Int.le_refl _
  | m + 1 => by
    have := base_mono ns k m
    rw [← Nat.add_assoc]
    simp only [baseTo]
    repeat' split
    all_goals omega
theorem dels_nonneg (ns : List Int) : ∀ k, 0 ≤ delsTo ns k
  | 0 => Int.le_refl _
  | k + 1 => by have := dels_nonneg ns k; simp only [delsTo]; split <;> omega
theorem keep_nonneg (ns : List Int) : ∀ k, 0 ≤ keepTo ns k
  | 0 => Int.le_refl _
  | k + 1 => by have := keep_nonneg ns k; simp only [keepTo]; split <;> omega
theorem rc_nonneg (s : ByteArray) : 0 ≤ rc s := by unfold rc; omega

def curD : Option Pt → Int
  | none => 0
  | some p => p.del
def curR : Option Pt → Int
  | none => 0
  | some p => rc p.ins
def curOk (B : Int) (st : Pst) : Prop := match st.cur with
  | none => True
  | some p => p.pos = st.pos ∧ fits (B - sumD st.done + sumR st.done) p

structure InvA (ns : List Int) (ss : List ByteArray) (B : Int) (k : Nat) (st : Pst) : Prop where
  ok : okB B st.done
  cok : curOk B st
  dels : sumD st.done + curD st.cur = delsTo ns k
  inss : sumR st.done + curR st.cur = insTo ns ss k
  posn : st.pos + curR st.cur = tgtTo ns ss k
  pos0 : 0 ≤ st.pos
  runs : st.ps.length = runsTo ns k
  none_ : st.cur = none → k = 0 ∨ 0 < ns[k - 1]!
  some_ : ∀ p, st.cur = some p → 0 < k ∧ ns[k - 1]! ≤ 0
  size : ∀ p ∈ st.ps, p.ins.size ≤ 1048576

theorem empty_app (s : ByteArray) : ByteArray.empty ++ s = s := by
  have e : ∀ x y : ByteArray, x.data = y.data → x = y := fun x y h => by cases x; cases y; simp_all
  apply e
  simp
theorem app_nil (t s : ByteArray) (h : s.toList = []) : t ++ s = t := by
  have e : ∀ x y : ByteArray, x.data = y.data → x = y := fun x y h => by cases x; cases y; simp_all
  apply e
  rw [ByteArray.toList_eq] at h
  simp [Array.toList_eq_nil_iff.1 h]

/-- In the making, a span that keeps nothing deletes, and bears no text. -/
theorem cur_del {x : Int} {s : ByteArray} {k : Nat} {y : Int} (hf : Fine x s k y) (hk : 0 < k) (hy : y ≤ 0) (hx : x ≤ 0) : x < 0 ∧ s.toList = [] := by
  obtain ⟨h1, h2, h3⟩ := hf
  obtain ⟨a, b⟩ := h3 hk
  have hx' : x ≠ 0 := by
    intro e
    subst e
    by_cases hy0 : y = 0
    · subst hy0; exact a rfl
    · exact b ⟨by unfold kind; rw [if_neg (by omega), if_pos (by omega)], by simp [kind]⟩
  exact ⟨by omega, h2 hx'⟩

theorem invA_step {ns : List Int} {ss : List ByteArray} {B : Int} {k : Nat} {st : Pst} (h : InvA ns ss B k st) (hf : Fine ns[k]! ss[k]! k ns[k - 1]!) (hB : baseTo ns (k + 1) ≤ B) (hs : ss[k]!.size ≤ 1048576) :
    InvA ns ss B (k + 1) (stepP st ns[k]! ss[k]!) := by
  obtain ⟨ok, cok, dels, inss, posn, pos0, runs, none_, some_, size⟩ := h
  have bs := base_split ns (k + 1)
  have bs0 := base_split ns k
  have ts0 := tgt_split ns ss k
  have ts1 := tgt_split ns ss (k + 1)
  have kn := keep_nonneg ns k
  have e1 : delsTo ns (k + 1) = delsTo ns k - (if ns[k]! < 0 then ns[k]! else 0) := rfl
  have e2 : insTo ns ss (k + 1) = insTo ns ss k + (if ns[k]! = 0 then rc ss[k]! else 0) := rfl
  have e3 : keepTo ns (k + 1) = keepTo ns k + (if 0 < ns[k]! then ns[k]! else 0) := rfl
  have e4 : runsTo ns (k + 1) = runsTo ns k + (if ns[k]! ≤ 0 ∧ (k = 0 ∨ 0 < ns[k - 1]!) then 1 else 0) := rfl
  have kk : k + 1 - 1 = k := by omega
  obtain ⟨done, cur, pos⟩ := st
  generalize hx : ns[k]! = x at *
  generalize hss : ss[k]! = s at *
  have rn := rc_nonneg s
  cases cur with
  | none =>
    have hn := none_ rfl
    simp only [curD, curR, Pst.ps, Option.toList, List.append_nil] at dels inss posn runs size pos0 ok
    by_cases h1 : 0 < x
    · simp only [stepP, if_pos h1]
      rw [if_neg (by omega)] at e1
      rw [if_neg (by omega)] at e2
      rw [if_pos h1] at e3
      rw [if_neg (by omega)] at e4
      refine ⟨ok, trivial, by simp only [curD]; omega, by simp only [curR]; omega, by simp only [curR]; omega, by simp only; omega, by simp only [Pst.ps, Option.toList, List.append_nil]; omega, fun _ => .inr (by rw [kk, hx]; exact h1), fun p hp => (by cases hp), by simpa [Pst.ps] using size⟩
    · simp only [stepP, if_neg h1]
      rw [empty_app]
      rw [if_neg h1] at e3
      rw [if_pos ⟨by omega, hn⟩] at e4
      have hd : sumD done + (0 - x) = delsTo ns (k + 1) := by
        rw [e1]; split <;> omega
      have hi : sumR done + rc s = insTo ns ss (k + 1) := by
        rw [e2]
        split
        · omega
        · have : rc s = 0 := by
            have := hf.2.1 (by assumption)
            have hz : s.size = 0 := by rw [ByteArray.toList_eq] at this; show s.data.size = 0; simp [Array.toList_eq_nil_iff.1 this]
            have := Lib.runeCount_le s
            unfold rc; omega
          omega
      refine ⟨ok, ⟨rfl, ⟨pos0, ?_, ?_, ?_⟩⟩, by simpa only [curD] using hd, by simpa only [curR] using hi, ?_, pos0, by simp only [Pst.ps, Option.toList]; simp; omega, fun h => (by cases h), fun p _ => ⟨by omega, by rw [kk, hx]; omega⟩, ?_⟩
      · simp only; omega
      · simp only; omega
      · simp only; omega
      · simp only [curR]; omega
      · intro p hp
        simp only [Pst.ps, Option.toList, List.mem_append, List.mem_singleton] at hp
        rcases hp with hp | rfl
        · exact size p hp
        · exact hs
  | some p =>
    obtain ⟨hk, hy⟩ := some_ p rfl
    obtain ⟨cp, c1, c2, c3, c4⟩ := cok
    simp only [curD, curR, Pst.ps, Option.toList] at dels inss posn runs size pos0 ok cp c1 c2 c3 c4
    have rp := rc_nonneg p.ins
    by_cases h1 : 0 < x
    · simp only [stepP, if_pos h1]
      rw [if_neg (by omega)] at e1
      rw [if_neg (by omega)] at e2
      rw [if_pos h1] at e3
      rw [if_neg (by omega)] at e4
      refine ⟨okB_snoc ok ⟨c1, c2, c3, c4⟩, trivial, by simp only [curD, sumD_snoc]; omega, by simp only [curR, sumR_snoc]; omega, by simp only [curR]; omega, by simp only; omega, by simp only [Pst.ps, Option.toList, List.append_nil]; omega, fun _ => .inr (by rw [kk, hx]; exact h1), fun p hp => (by cases hp), by simpa [Pst.ps] using size⟩
    · obtain ⟨hx0, hs0⟩ := cur_del hf hk hy (by omega)
      simp only [stepP, if_neg h1]
      rw [app_nil _ _ hs0]
      rw [if_pos hx0] at e1
      rw [if_neg (by omega)] at e2
      rw [if_neg h1] at e3
      rw [if_neg (by omega)] at e4
      refine ⟨ok, ⟨cp, ⟨c1, c2, ?_, ?_⟩⟩, by simp only [curD]; omega, by simp only [curR]; omega, by simp only [curR]; omega, pos0, by simp only [Pst.ps, Option.toList]; simp at runs ⊢; omega, fun h => (by cases h), fun p _ => ⟨by omega, by rw [kk, hx]; omega⟩, ?_⟩
      · simp only; omega
      · simp only; omega
      · intro p' hp
        simp only [Pst.ps, Option.toList, List.mem_append, List.mem_singleton] at hp
        rcases hp with hp | rfl
        · exact size p' (by simp [hp])
        · exact size p (by simp)

theorem invA {ns : List Int} {ss : List ByteArray} {n : Nat} (hS : Small ns ss n) (hC : CanonTo ns ss n) : ∀ k, k ≤ n → InvA ns ss (baseTo ns n) k (patTo ns ss k)
  | 0, _ => ⟨fun j h => by simp [patTo] at h, trivial, rfl, rfl, rfl, Int.le_refl _, rfl, fun _ => .inl rfl, fun p h => (by cases h), fun p h => by simp [patTo, Pst.ps] at h⟩
  | k + 1, hk => invA_step (invA hS hC k (by omega)) (hC k (by omega)) (by have := base_mono ns (k + 1) (n - (k + 1)); rwa [show k + 1 + (n - (k + 1)) = n by omega] at this) (hS k (by omega)).2.2

end Go.Proofs.Qxb6627435a
