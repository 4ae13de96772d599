import Derived.Test.Qxb6627435aPatB
import Derived.Deep.DeepCutAuto
import Derived.WalkSpells
namespace Go.Proofs.Qxb6627435a
open Go.RowKit
set_option linter.unusedVariables false

theorem Reads.of_cells {w : World} {a : Addr} {vs : List Value} (h : ∀ j (hj : j < vs.length), w.cell? (a.add j) = some vs[j]) : Reads w (some a) vs := fun j hj => by
  obtain ⟨b, off, spot⟩ := a
  have hs : spot = none := by simpa [Addr.add] using World.cell?_spot (h 0 (by omega))
  subst hs
  refine ⟨b, off, rfl, ?_⟩
  have := h j hj
  by_cases e : j = 0
  · subst e; simpa [Addr.add] using this
  · simpa [Addr.add, e] using this

theorem Reads.add {w : World} {a : Addr} {vs : List Value} (h : Reads w (some a) vs) (j : Nat) (v : Value) (hv : vs[j]? = some v) : w.cell? (a.add j) = some v := by
  obtain ⟨hj, e⟩ := List.getElem?_eq_some_iff.1 hv
  obtain ⟨b, off, hp, hc⟩ := h j hj
  injection hp with hp
  subst hp
  rw [← e]
  by_cases e0 : j = 0
  · subst e0; simpa [Addr.add] using hc
  · simpa [Addr.add, e0] using hc

/-- 'copy' into a new row of n cells, all of it. -/
theorem run_cp {w : World} {g n cn : Nat} {a : Addr} {vs : List Value} {T e : TypeId} (hu : Try.prog.underlying T = some (.slice e)) (hz : (Try.prog.info? e).map (·.size) = some 1) (hl : vs.length = n) (hr : Reads w (some a) vs) (hH : Has w g n) (hF : FreeRow w g n) (h1 : ∀ v ∈ vs, v.oneCell' = true) (ty : TypeId) :
    (Builtin.copy_ #[T, T] ty #[.slice (some ⟨g, 0, none⟩) n n, .slice (some a) n cn]).run Try.prog w = .ok (goInt n) (w.setCells g 0 vs) := by
  have := run_copy_cells (P := Try.prog) w T T ty e g 0 n n a n cn vs hu hz (by simp [hl]) (fun j v hv => hr.add j v hv) (fun j hj => by simpa using hH j (by omega)) (fun j hj => by simpa using hF j (by omega)) h1
  rw [hl] at this
  exact this

theorem reads_setCells {w : World} {g : Nat} {vs : List Value} (hH : Has w g vs.length) : Reads (w.setCells g 0 vs) (some ⟨g, 0, none⟩) vs := fun j hj =>
  ⟨g, 0, rfl, by have := World.cell?_setCells_in g vs 0 w (fun i hi => by simpa using hH i hi) j hj; simpa using this⟩

theorem below_setCells (g : Nat) : ∀ (vs : List Value) (o : Nat) {B : Nat} {w0 w : World}, Below B w0 w → B ≤ g → Below B w0 (w.setCells g o vs)
  | [], _, _, _, _, h, _ => h
  | v :: r, o, B, w0, w, h, hg => by
    rw [World.setCells]
    exact below_setCells g r (o + 1) (h.setCell (p := ⟨g, o, none⟩) hg v) hg

theorem has_made (w : World) (c : Array Value) (t : TypeId) (n : Nat) (h : c.size = n) : Has (w.alloc (.cells c t)) w.heap.size n := fun j hj => by
  have h' : j < c.size := by omega
  simp [h']
theorem made3_size (n : Nat) : (made3 n).size = n := by simp [made3, madeCells]
theorem made9_size (n : Nat) : (made9 n).size = n := by simp [made9, madeCells]

theorem ints_one (ns : List Int) : ∀ v ∈ ints ns, v.oneCell' = true := by
  intro v hv
  simp only [ints, List.mem_map] at hv
  obtain ⟨x, _, rfl⟩ := hv
  rfl
theorem strs_one (ss : List ByteArray) : ∀ v ∈ strs ss, v.oneCell' = true := by
  intro v hv
  simp only [strs, List.mem_map] at hv
  obtain ⟨x, _, rfl⟩ := hv
  rfl

/-- The copy of ns: what it leaves. -/
theorem cp3 {w : World} {n cn : Nat} {a : Addr} {ns : List Int} (hl : ns.length = n) (hr : Reads w (some a) (ints ns)) :
    (∀ ty, (Builtin.copy_ #[22, 22] ty #[.slice (some ⟨w.heap.size, 0, none⟩) n n, .slice (some a) n cn]).run Try.prog (w.alloc (.cells (made3 n) 3)) = .ok (goInt n) ((w.alloc (.cells (made3 n) 3)).setCells w.heap.size 0 (ints ns))) ∧
    Reads ((w.alloc (.cells (made3 n) 3)).setCells w.heap.size 0 (ints ns)) (some ⟨w.heap.size, 0, none⟩) (ints ns) ∧ Below w.heap.size w ((w.alloc (.cells (made3 n) 3)).setCells w.heap.size 0 (ints ns)) := by
  have hb : Below w.heap.size w (w.alloc (.cells (made3 n) 3)) := (Below.refl _ w).alloc (Nat.le_refl _) _
  have hH := has_made w (made3 n) 3 n (made3_size n)
  refine ⟨fun ty => run_cp Try.underlying22 (by kernel_rfl) (by rw [ints_len, hl]) (hr.below hb) hH (FreeRow.made w _ _ n) (ints_one ns) ty, reads_setCells (by rw [ints_len, hl]; exact hH), below_setCells _ _ _ hb (Nat.le_refl _)⟩
theorem cp9 {w : World} {n cn : Nat} {a : Addr} {ss : List ByteArray} (hl : ss.length = n) (hr : Reads w (some a) (strs ss)) :
    (∀ ty, (Builtin.copy_ #[23, 23] ty #[.slice (some ⟨w.heap.size, 0, none⟩) n n, .slice (some a) n cn]).run Try.prog (w.alloc (.cells (made9 n) 9)) = .ok (goInt n) ((w.alloc (.cells (made9 n) 9)).setCells w.heap.size 0 (strs ss))) ∧
    Reads ((w.alloc (.cells (made9 n) 9)).setCells w.heap.size 0 (strs ss)) (some ⟨w.heap.size, 0, none⟩) (strs ss) ∧ Below w.heap.size w ((w.alloc (.cells (made9 n) 9)).setCells w.heap.size 0 (strs ss)) := by
  have hb : Below w.heap.size w (w.alloc (.cells (made9 n) 9)) := (Below.refl _ w).alloc (Nat.le_refl _) _
  have hH := has_made w (made9 n) 9 n (made9_size n)
  refine ⟨fun ty => run_cp Try.underlying23 (by kernel_rfl) (by rw [strs_len, hl]) (hr.below hb) hH (FreeRow.made w _ _ n) (strs_one ss) ty, reads_setCells (by rw [strs_len, hl]; exact hH), below_setCells _ _ _ hb (Nat.le_refl _)⟩


/-! ### Sums over the first patches -/
theorem sumD_take : ∀ (P : List Pt) (j : Nat), (∀ p ∈ P, 0 ≤ p.del) → 0 ≤ sumD (P.take j) ∧ sumD (P.take j) ≤ sumD P
  | [], j, _ => by simp [sumD]
  | p :: l, 0, h => by
    have := sumD_nonneg (p :: l) h
    simp only [List.take_zero, sumD] at *
    omega
  | p :: l, j + 1, h => by
    have := sumD_take l j fun q hq => h q (by simp [hq])
    have := h p (by simp)
    simp only [List.take_succ_cons, sumD]
    omega
theorem sumR_nonneg : ∀ P : List Pt, 0 ≤ sumR P
  | [] => Int.le_refl _
  | p :: l => by
    have := sumR_nonneg l
    have := rc_nonneg p.ins
    simp only [sumR]
    omega
theorem sumR_take : ∀ (P : List Pt) (j : Nat), 0 ≤ sumR (P.take j) ∧ sumR (P.take j) ≤ sumR P
  | [], j => by simp [sumR]
  | p :: l, 0 => by
    have := sumR_nonneg (p :: l)
    simp only [List.take_zero, sumR] at *
    omega
  | p :: l, j + 1 => by
    have := sumR_take l j
    have := rc_nonneg p.ins
    simp only [List.take_succ_cons, sumR]
    omega
theorem sumD_take_succ (P : List Pt) (j : Nat) (h : j < P.length) : sumD (P.take (j + 1)) = sumD (P.take j) + P[j].del := by
  rw [List.take_succ_eq_append_getElem h, sumD_snoc]
theorem sumR_take_succ (P : List Pt) (j : Nat) (h : j < P.length) : sumR (P.take (j + 1)) = sumR (P.take j) + rc P[j].ins := by
  rw [List.take_succ_eq_append_getElem h, sumR_snoc]

/-- All that the books need of the patches. -/
structure Kept (ns : List Int) (ss : List ByteArray) (n : Nat) (P : List Pt) : Prop where
  ok : okB (baseTo ns n) P
  dels : sumD P = delsTo ns n
  inss : sumR P = insTo ns ss n
  runs : P.length = runsTo ns n
  size : ∀ p ∈ P, p.ins.size ≤ 1048576
theorem kept_of {ns : List Int} {ss : List ByteArray} {n : Nat} (hS : Small ns ss n) (hC : CanonTo ns ss n) : Kept ns ss n (patTo ns ss n).ps := by
  have h := invA hS hC n (Nat.le_refl _)
  generalize patTo ns ss n = st at *
  obtain ⟨done, cur, pos⟩ := st
  obtain ⟨ok, cok, dels, inss, posn, pos0, runs, _, _, size⟩ := h
  cases cur with
  | none =>
    simp only [curD, curR, Pst.ps, Option.toList, List.append_nil] at *
    exact ⟨ok, by omega, by omega, runs, size⟩
  | some p =>
    obtain ⟨_, hf⟩ := cok
    simp only [curD, curR, Pst.ps, Option.toList] at *
    exact ⟨okB_snoc ok hf, by rw [sumD_snoc]; exact dels, by rw [sumR_snoc]; exact inss, runs, size⟩
theorem okB_all {B : Int} {P : List Pt} (h : okB B P) : ∀ p ∈ P, 0 ≤ p.del := fun p hp => by
  obtain ⟨j, hj, e⟩ := List.getElem_of_mem hp
  rw [← e]
  exact (h j hj).2.2.1

theorem flat_get : ∀ (P : List Pt) (j : Nat) (h : j < P.length), (flat P)[j * 3]? = some (.int .i64 P[j].pos) ∧ (flat P)[j * 3 + 1]? = some (.int .i64 P[j].del) ∧ (flat P)[j * 3 + 2]? = some (.string P[j].ins)
  | p :: l, 0, _ => ⟨rfl, rfl, rfl⟩
  | p :: l, j + 1, h => by
    have := flat_get l j (by simpa using h)
    have e : (j + 1) * 3 = j * 3 + 3 := by omega
    rw [e]
    exact this

/-- What v, that holds P, is, and where its patches lie. -/
theorem Owns.shape {w : World} {B : Nat} {v : Value} {P : List Pt} (h : Owns w B v P) : ∃ po cap, v = .slice po P.length cap ∧ (∀ w', Owns w' B v P → ∀ j (hj : j < P.length), ∃ g, po = some ⟨g, 0, none⟩ ∧
    w'.cell? ⟨g, j * 3, none⟩ = some (.int .i64 P[j].pos) ∧ w'.cell? ⟨g, j * 3 + 1, none⟩ = some (.int .i64 P[j].del) ∧ w'.cell? ⟨g, j * 3 + 2, none⟩ = some (.string P[j].ins)) := by
  rcases h.2 with ⟨h', h0⟩ | ⟨g, cap, cur, h', _⟩
  · exact ⟨none, 0, by rw [h', h0], fun w' _ j hj => by omega⟩
  · refine ⟨some ⟨g, 0, none⟩, cap, h', fun w' hw j hj => ⟨g, rfl, ?_⟩⟩
    rw [h'] at hw
    have L := flat_len P
    obtain ⟨f0, f1, f2⟩ := flat_get P j hj
    exact ⟨by rw [World.ownsRow.cellAt hw _ (by omega), f0], by rw [World.ownsRow.cellAt hw _ (by omega), f1], by rw [World.ownsRow.cellAt hw _ (by omega), f2]⟩

/-- The patch at place j. -/
def ptAt (P : List Pt) (j : Nat) : Pt := P.getD j ⟨0, 0, ByteArray.empty⟩
theorem ptAt_eq (P : List Pt) (j : Nat) (h : j < P.length) : P[j] = ptAt P j := by simp [ptAt, h]

theorem ins_nonneg (ns : List Int) (ss : List ByteArray) : ∀ k, 0 ≤ insTo ns ss k
  | 0 => Int.le_refl _
  | k + 1 => by have := ins_nonneg ns ss k; have := rc_nonneg ss[k]!; simp only [insTo]; split <;> omega
theorem counts_bd {ns : List Int} {ss : List ByteArray} {n : Nat} (h : Small ns ss n) (hn : n ≤ 65536) (j : Nat) (hj : j ≤ n) :
    runsTo ns j ≤ 65536 ∧ 0 ≤ delsTo ns j ∧ delsTo ns j ≤ 72057594037927936 ∧ 0 ≤ insTo ns ss j ∧ insTo ns ss j ≤ 72057594037927936 := by
  have a := runs_le ns j
  have b := baseTo_bd h j hj
  have c := tgtTo_bd h j hj
  have d := base_split ns j
  have e := tgt_split ns ss j
  have f := keep_nonneg ns j
  have g := dels_nonneg ns j
  have i := ins_nonneg ns ss j
  omega

theorem takes_bd {B : Int} {P : List Pt} {d i : Int} (j : Nat) (h : okB B P) (hd : sumD P = d) (hi : sumR P = i) (d2 : d ≤ 72057594037927936) (i2 : i ≤ 72057594037927936) :
    0 ≤ sumD (P.take j) ∧ sumD (P.take j) ≤ 72057594037927936 ∧ 0 ≤ sumR (P.take j) ∧ sumR (P.take j) ≤ 72057594037927936 := by
  have a := sumD_take P j (okB_all h)
  have b := sumR_take P j
  omega
theorem final_eqs {ns : List Int} {ss : List ByteArray} {k j : Nat} {P : List Pt} (hj : P.length ≤ j) (hd : sumD P = delsTo ns k) (hi : sumR P = insTo ns ss k) :
    ((baseTo ns k - sumD (P.take j) + sumR (P.take j)) == tgtTo ns ss k) = true ∧ (sumD (P.take j) == delsTo ns k) = true ∧ (sumR (P.take j) == insTo ns ss k) = true := by
  rw [List.take_of_length_le hj]
  have a := base_split ns k
  have b := tgt_split ns ss k
  simp only [beq_iff_eq]
  omega
end Go.Proofs.Qxb6627435a
