import Derived.Test.Qxb6627435aCopy
namespace Go.Proofs.Qxb6627435a
open Go.RowKit
set_option linter.unusedVariables false

/-- A stretch of the symbolic text. -/
structure Sg where
  orig : Bool
  a : Int
  n : Int
  s : ByteArray
def keepSg (c x : Int) : Sg := ⟨true, c, x, ByteArray.empty⟩
def insSg (s : ByteArray) : Sg := ⟨false, 0, 0, s⟩
/-- g does not join what stands last in T; nothing wraps. -/
def NoJoin (T : List Sg) (g : Sg) : Prop := ∀ T' l, T = T' ++ [l] → g.orig = true → l.orig = true → 0 ≤ l.a ∧ 0 ≤ l.n ∧ l.a + l.n ≤ 144115188075855872 ∧ l.a + l.n ≠ g.a

/-- What zzEffect makes of the first k spans. -/
def effTo (ns : List Int) (ss : List ByteArray) : Nat → List Sg
  | 0 => []
  | k + 1 => if 0 < ns[k]! then effTo ns ss k ++ [keepSg (baseTo ns k) ns[k]!] else if ns[k]! < 0 then effTo ns ss k else effTo ns ss k ++ [insSg ss[k]!]

structure InvE (ns : List Int) (ss : List ByteArray) (k : Nat) : Prop where
  last : ∀ T' l, effTo ns ss k = T' ++ [l] → l.orig = true → 0 ≤ l.a ∧ 0 ≤ l.n ∧ l.a + l.n ≤ baseTo ns k ∧ (l.a + l.n = baseTo ns k → 0 < k ∧ 0 < ns[k - 1]!)

theorem snoc_inj {α : Type} {A B : List α} {a b : α} (h : A ++ [a] = B ++ [b]) : A = B ∧ a = b := by
  have := List.append_inj' h rfl
  exact ⟨this.1, by simpa using this.2⟩

theorem invE {ns : List Int} {ss : List ByteArray} {n : Nat} (hS : Small ns ss n) : ∀ k, k ≤ n → InvE ns ss k
  | 0, _ => ⟨fun T' l h => by simp [effTo] at h⟩
  | k + 1, hk => by
    have ih := invE hS k (by omega)
    obtain ⟨b1, b2⟩ := baseTo_bd hS k (by omega)
    have eb : baseTo ns (k + 1) = baseTo ns k + (if 0 < ns[k]! then ns[k]! else if ns[k]! < 0 then -ns[k]! else 0) := rfl
    have kk : k + 1 - 1 = k := by omega
    refine ⟨fun T' l h ho => ?_⟩
    rw [kk]
    by_cases h1 : 0 < ns[k]!
    · simp only [effTo, if_pos h1] at h
      rw [if_pos h1] at eb
      obtain ⟨rfl, rfl⟩ := snoc_inj h
      simp only [keepSg]
      exact ⟨b1, by omega, by omega, fun _ => ⟨by omega, h1⟩⟩
    · by_cases h2 : ns[k]! < 0
      · simp only [effTo, if_neg h1, if_pos h2] at h
        rw [if_neg h1, if_pos h2] at eb
        obtain ⟨c1, c2, c3, c4⟩ := ih.last T' l h ho
        exact ⟨c1, c2, by omega, fun e => by omega⟩
      · simp only [effTo, if_neg h1, if_neg h2] at h
        obtain ⟨rfl, rfl⟩ := snoc_inj h
        simp [insSg] at ho

theorem kind_one {x : Int} (h : 0 < x) : kind x = 1 := by unfold kind; rw [if_pos h]
/-- In zzEffect no stretch joins the one ahead. -/
theorem eff_noJoin {ns : List Int} {ss : List ByteArray} {n k : Nat} (hS : Small ns ss n) (hC : CanonTo ns ss n) (hn : n ≤ 65536) (hk : k < n) (hx : 0 < ns[k]!) : NoJoin (effTo ns ss k) (keepSg (baseTo ns k) ns[k]!) := fun T' l h _ ho => by
  obtain ⟨c1, c2, c3, c4⟩ := (invE hS k (by omega)).last T' l h ho
  have bb := baseTo_bd hS k (by omega)
  refine ⟨c1, c2, by omega, fun e => ?_⟩
  obtain ⟨k0, hy⟩ := c4 e
  have := (hC k hk).2.2 k0
  exact this.1 (by rw [kind_one hy, kind_one hx])
theorem ins_noJoin (T : List Sg) (s : ByteArray) : NoJoin T (insSg s) := fun _ _ _ h => by simp [insSg] at h

/-! ### Replaying patches -/
structure Rst where
  T : List Sg
  len : Int
  c : Int
def rstep (r : Rst) (p : Pt) : Rst :=
  let T1 := if 0 < p.pos - r.len then r.T ++ [keepSg r.c (p.pos - r.len)] else r.T
  let c1 := if 0 < p.pos - r.len then r.c + (p.pos - r.len) else r.c
  ⟨if p.ins.toList = [] then T1 else T1 ++ [insSg p.ins], p.pos + rc p.ins, c1 + p.del⟩
def repAll : Rst → List Pt → Rst
  | r, [] => r
  | r, p :: l => repAll (rstep r p) l
theorem repAll_snoc : ∀ (l : List Pt) (r : Rst) (p : Pt), repAll r (l ++ [p]) = rstep (repAll r l) p
  | [], _, _ => rfl
  | q :: l, r, p => repAll_snoc l (rstep r q) p
def rep0 : Rst := ⟨[], 0, 0⟩
/-- What zzReplay asks of the patch p, at the state r, B the text's length; nz: it is not the first. -/
structure RepOk (B : Int) (r : Rst) (p : Pt) (nz : Prop) : Prop where
  del : 0 ≤ p.del
  some_ : ¬ (p.del = 0 ∧ p.ins.toList = [])
  pos : r.len ≤ p.pos
  gap : nz → p.pos - r.len ≠ 0
  fit : p.pos - r.len ≤ B - r.c
  fit2 : p.del ≤ B - (r.c + (p.pos - r.len))
  join : 0 < p.pos - r.len → NoJoin r.T (keepSg r.c (p.pos - r.len))
def repOks (B : Int) (P : List Pt) : Prop := ∀ j (h : j < P.length), RepOk B (repAll rep0 (P.take j)) P[j] (0 < j)
theorem repOks_snoc {B : Int} {P : List Pt} {p : Pt} (h : repOks B P) (hp : RepOk B (repAll rep0 P) p (0 < P.length)) : repOks B (P ++ [p]) := fun j hj => by
  by_cases e : j < P.length
  · rw [List.take_append_of_le_length (by omega), List.getElem_append_left e]
    exact h j e
  · have e2 : j = P.length := by simp at hj; omega
    subst e2
    simpa using hp

/-- The keep that stands between the last patch that is done and the next: of x code points. -/
structure Gap (ns : List Int) (ss : List ByteArray) (k : Nat) (r : Rst) (done : List Pt) (pos x : Int) : Prop where
  x0 : 0 ≤ x
  zero : x = 0 → done = []
  eff : effTo ns ss k = if 0 < x then r.T ++ [keepSg r.c x] else r.T
  c : r.c + x = baseTo ns k
  pos : pos = r.len + x
  join : 0 < x → NoJoin r.T (keepSg r.c x)
def curB (ns : List Int) (ss : List ByteArray) (B : Int) (k : Nat) (st : Pst) : Prop := match st.cur with
  | none => ∃ x, Gap ns ss k (repAll rep0 st.done) st.done st.pos x ∧ (x = 0 → k = 0)
  | some p => RepOk B (repAll rep0 st.done) p (0 < st.done.length) ∧ (rstep (repAll rep0 st.done) p).T = effTo ns ss k ∧ (rstep (repAll rep0 st.done) p).c = baseTo ns k ∧ p.pos = st.pos

structure InvB (ns : List Int) (ss : List ByteArray) (B : Int) (k : Nat) (st : Pst) : Prop where
  oks : repOks B st.done
  cur : curB ns ss B k st

theorem rstep_c {r : Rst} {p : Pt} (h : r.len ≤ p.pos) : (rstep r p).c = r.c + (p.pos - r.len) + p.del := by
  simp only [rstep]
  split <;> omega

theorem invB_step {ns : List Int} {ss : List ByteArray} {n k : Nat} {st : Pst} (hS : Small ns ss n) (hC : CanonTo ns ss n) (hn : n ≤ 65536) (hk : k < n) (h : InvB ns ss (baseTo ns n) k st) (hA : InvA ns ss (baseTo ns n) k st) :
    InvB ns ss (baseTo ns n) (k + 1) (stepP st ns[k]! ss[k]!) := by
  obtain ⟨oks, hcur⟩ := h
  have hf := hC k hk
  have hB : baseTo ns (k + 1) ≤ baseTo ns n := by
    have := base_mono ns (k + 1) (n - (k + 1))
    rwa [show k + 1 + (n - (k + 1)) = n by omega] at this
  have eb : baseTo ns (k + 1) = baseTo ns k + (if 0 < ns[k]! then ns[k]! else if ns[k]! < 0 then -ns[k]! else 0) := rfl
  have ee : effTo ns ss (k + 1) = if 0 < ns[k]! then effTo ns ss k ++ [keepSg (baseTo ns k) ns[k]!] else if ns[k]! < 0 then effTo ns ss k else effTo ns ss k ++ [insSg ss[k]!] := rfl
  have hj := eff_noJoin hS hC hn hk
  have hsm := hA.some_
  have hnn := hA.none_
  clear hA
  obtain ⟨done, cur, pos⟩ := st
  cases cur with
  | none =>
    obtain ⟨x, g, xk⟩ := hcur
    have hnn := hnn rfl
    by_cases h1 : 0 < ns[k]!
    · -- a keep behind a keep: only at the start
      have k0 : k = 0 := by
        by_cases k0 : k = 0
        · exact k0
        · rcases hnn with h | h
          · exact h
          · exact absurd (by rw [kind_one h, kind_one h1]) (hf.2.2 (by omega)).1
      subst k0
      have x0 : x = 0 := by
        have := g.c
        have e0 : baseTo ns 0 = 0 := rfl
        have hd : done = [] ∨ done ≠ [] := Classical.em _
        by_cases hx : x = 0
        · exact hx
        · exfalso
          have e1 := g.eff
          rw [if_pos (by have := g.x0; omega)] at e1
          simp [effTo] at e1
      obtain ⟨rfl⟩ := g.zero x0
      simp only [stepP, if_pos h1]
      rw [if_pos h1] at eb ee
      refine ⟨oks, ns[0]!, ⟨by omega, fun e => by omega, ?_, ?_, ?_, ?_⟩, fun e => by omega⟩
      · rw [if_pos h1, ee]; rfl
      · have e0 : baseTo ns 0 = 0 := rfl
        simp only [repAll, rep0]; omega
      · have := g.pos
        simp only [repAll, rep0] at this ⊢; omega
      · intro _ T' l hh; simp [repAll, rep0] at hh
    · simp only [stepP, if_neg h1]
      rw [empty_app]
      rw [if_neg h1] at eb ee
      have gx := g.x0
      have gc := g.c
      have gp := g.pos
      simp only at gp gc
      have ek : pos - (repAll rep0 done).len = x := by omega
      have hc' : (rstep (repAll rep0 done) ⟨pos, 0 - ns[k]!, ss[k]!⟩).c = baseTo ns (k + 1) := by
        rw [rstep_c (by simp only; omega)]
        simp only
        rw [eb]
        split <;> omega
      have hT : (rstep (repAll rep0 done) ⟨pos, 0 - ns[k]!, ss[k]!⟩).T = effTo ns ss (k + 1) := by
        simp only [rstep, ek]
        rw [ee]
        have e2 : (if 0 < x then (repAll rep0 done).T ++ [keepSg (repAll rep0 done).c x] else (repAll rep0 done).T) = effTo ns ss k := g.eff.symm
        rw [e2]
        by_cases h2 : ns[k]! < 0
        · rw [if_pos h2, if_pos (hf.2.1 (by omega))]
        · rw [if_neg h2, if_neg (hf.1 (by omega))]
      refine ⟨oks, ⟨?_, ?_, ?_, ?_, ?_, ?_, ?_⟩, hT, hc', rfl⟩
      · simp only; omega
      · simp only
        intro ⟨e1, e2⟩
        exact hf.1 (by omega) e2
      · simp only; omega
      · simp only
        intro hd e
        have this : done = [] := g.zero (by omega)
        rw [this] at hd
        simp at hd
      · simp only; omega
      · simp only
        rw [ek, gc]
        have : baseTo ns (k + 1) = baseTo ns k - ns[k]! := by rw [eb]; split <;> omega
        omega
      · simp only [ek]
        exact g.join
  | some p =>
    obtain ⟨hok, hT, hc, hp⟩ := hcur
    obtain ⟨k0, hy⟩ := hsm p rfl
    by_cases h1 : 0 < ns[k]!
    · simp only [stepP, if_pos h1]
      rw [if_pos h1] at eb ee
      simp only at hok hT hc hp
      refine ⟨repOks_snoc oks hok, ns[k]!, ⟨by omega, fun e => by omega, ?_, ?_, ?_, ?_⟩, fun e => by omega⟩
      · rw [repAll_snoc, hT, hc, if_pos h1, ee]
      · rw [repAll_snoc, hc]; omega
      · rw [repAll_snoc]
        simp only [rstep]
        omega
      · intro _
        rw [repAll_snoc, hT, hc]
        exact hj h1
    · obtain ⟨hx0, hs0⟩ := cur_del hf k0 hy (by omega)
      simp only [stepP, if_neg h1]
      rw [app_nil _ _ hs0]
      rw [if_neg h1, if_pos hx0] at eb ee
      simp only at hok hT hc hp
      obtain ⟨o1, o2, o3, o4, o5, o6, o7⟩ := hok
      have hcc := rstep_c o3
      rw [hc] at hcc
      refine ⟨oks, ⟨?_, ?_, o3, o4, o5, ?_, o7⟩, ?_, ?_, hp⟩
      · simp only; omega
      · simp only; intro ⟨e1, _⟩; omega
      · simp only; omega
      · rw [ee, ← hT]; rfl
      · rw [rstep_c (by simp only; exact o3)]
        simp only
        omega

theorem invB {ns : List Int} {ss : List ByteArray} {n : Nat} (hS : Small ns ss n) (hC : CanonTo ns ss n) (hn : n ≤ 65536) : ∀ k, k ≤ n → InvB ns ss (baseTo ns n) k (patTo ns ss k)
  | 0, _ => ⟨fun j h => by simp [patTo] at h, 0, ⟨Int.le_refl _, fun _ => rfl, rfl, rfl, rfl, fun h => by omega⟩, fun _ => rfl⟩
  | k + 1, hk => invB_step hS hC hn (by omega) (invB hS hC hn k (by omega)) (invA hS hC k (by omega))

/-- The whole law: each patch passes, and the text comes out. -/
structure Replays (ns : List Int) (ss : List ByteArray) (n : Nat) (P : List Pt) : Prop where
  oks : repOks (baseTo ns n) P
  short : (repAll rep0 P).c < baseTo ns n → NoJoin (repAll rep0 P).T (keepSg (repAll rep0 P).c (baseTo ns n - (repAll rep0 P).c)) ∧ (repAll rep0 P).T ++ [keepSg (repAll rep0 P).c (baseTo ns n - (repAll rep0 P).c)] = effTo ns ss n
  full : ¬ (repAll rep0 P).c < baseTo ns n → (repAll rep0 P).T = effTo ns ss n
theorem replays {ns : List Int} {ss : List ByteArray} {n : Nat} (hS : Small ns ss n) (hC : CanonTo ns ss n) (hn : n ≤ 65536) : Replays ns ss n (patTo ns ss n).ps := by
  have h := invB hS hC hn n (Nat.le_refl _)
  generalize patTo ns ss n = st at *
  obtain ⟨done, cur, pos⟩ := st
  obtain ⟨oks, hcur⟩ := h
  cases cur with
  | none =>
    obtain ⟨x, g, xk⟩ := hcur
    have gc := g.c
    have gx := g.x0
    have ge := g.eff
    have gj := g.join
    simp only at gc ge gj
    simp only [Pst.ps, Option.toList, List.append_nil] at *
    have ex : baseTo ns n - (repAll rep0 done).c = x := by omega
    refine ⟨oks, fun h => ?_, fun h => ?_⟩
    · rw [ex]
      have : 0 < x := by omega
      rw [if_pos this] at ge
      exact ⟨gj this, ge.symm⟩
    · rw [if_neg (by omega)] at ge
      exact ge.symm
  | some p =>
    obtain ⟨hok, hT, hc, hp⟩ := hcur
    simp only [Pst.ps, Option.toList] at *
    rw [← repAll_snoc] at hT hc
    exact ⟨repOks_snoc oks hok, fun h => by omega, fun _ => hT⟩
end Go.Proofs.Qxb6627435a
