import Derived.Test.Qxb6627435aBooks
namespace Go.Proofs.Qxb6627435a
open Go.RowKit
set_option linter.unusedVariables false

theorem Try.info40 : (Try.prog.info? 40).map (fun i => (i.zero, i.size, i.bytes)) = some (some (.agg #[.int .i64 0, .int .i64 0, .string ByteArray.empty]), 3, 32) := by kernel_rfl

/-- The cells of patches, three each. -/
def flat : List Pt → List Value
  | [] => []
  | p :: l => .int .i64 p.pos :: .int .i64 p.del :: .string p.ins :: flat l
theorem flat_len : ∀ P : List Pt, (flat P).length = P.length * 3
  | [] => rfl
  | p :: l => by simp only [flat, List.length_cons, flat_len l]; omega
theorem flat_app : ∀ P R : List Pt, flat (P ++ R) = flat P ++ flat R
  | [], R => rfl
  | p :: l, R => by simp only [List.cons_append, flat, flat_app l R]
theorem flat_snoc (P : List Pt) (p : Pt) : flat (P ++ [p]) = flat P ++ [.int .i64 p.pos, .int .i64 p.del, .string p.ins] := by rw [flat_app]; rfl

theorem own_shape {w : World} {base e size n : Nat} {v : Value} {xs : List Value} (h : w.ownsRow base e size v n xs) (hn : 0 < n) : ∃ g cap, v = .slice (some ⟨g, 0, none⟩) n cap := by
  rcases h.2 with ⟨_, h2⟩ | ⟨g, cap, cur, hv, _⟩
  · omega
  · exact ⟨g, cap, hv⟩

/-- v holds the patches P, in rows from block B on. -/
def Owns (w : World) (B : Nat) (v : Value) (P : List Pt) : Prop := w.ownsRow B 40 3 v P.length (flat P)

theorem Owns.last {w : World} {B g cap d : Nat} {done : List Pt} {p : Pt} (h : Owns w B (.slice (some ⟨g, 0, none⟩) (d + 1) cap) (done ++ [p])) (hd : done.length = d) :
    w.cell? ⟨g, d * 3, none⟩ = some (.int .i64 p.pos) ∧ w.cell? ⟨g, d * 3 + 1, none⟩ = some (.int .i64 p.del) ∧ w.cell? ⟨g, d * 3 + 2, none⟩ = some (.string p.ins) ∧ ∀ j, w.frozen? ⟨g, j, none⟩ = false := by
  unfold Owns at h
  have e : (done ++ [p]).length = d + 1 := by simp [hd]
  rw [e] at h
  have L := flat_len done
  refine ⟨?_, ?_, ?_, fun j => h.frozenAt j⟩
  · rw [h.cellAt _ (by omega), flat_snoc, List.getElem?_append_right (by omega)]
    rw [show d * 3 - (flat done).length = 0 by omega]; rfl
  · rw [h.cellAt _ (by omega), flat_snoc, List.getElem?_append_right (by omega)]
    rw [show d * 3 + 1 - (flat done).length = 1 by omega]; rfl
  · rw [h.cellAt _ (by omega), flat_snoc, List.getElem?_append_right (by omega)]
    rw [show d * 3 + 2 - (flat done).length = 2 by omega]; rfl

theorem Owns.blk {w : World} {B g n cap : Nat} {P : List Pt} (h : Owns w B (.slice (some ⟨g, 0, none⟩) n cap) P) : B ≤ g ∧ g < w.heap.size := World.ownsRow.lt h g rfl

/-- A world that keeps every block keeps what is owned. -/
theorem Owns.below {w w' : World} {B : Nat} {v : Value} {P : List Pt} (h : Owns w B v P) (hb : Below w.heap.size w w') : Owns w' B v P := by
  refine World.ownsRow.kept (row := none) h ⟨hb.os, hb.tape, hb.output, hb.size, fun k hk _ => hb.block k hk⟩ ?_
  cases hv : v.ownBlock
  · exact .inl rfl
  · exact .inr (by simp)
theorem Owns.drewN {w : World} {B : Nat} {v : Value} {P : List Pt} (h : Owns w B v P) : Owns w.drew B v P := h

theorem flat_upd (done : List Pt) (p : Pt) (d : Nat) (hd : done.length = d) (a : Int) (b : ByteArray) :
    ((flat (done ++ [p])).set (d * 3 + 1) (.int .i64 a)).set (d * 3 + 2) (.string b) = flat (done ++ [⟨p.pos, a, b⟩]) := by
  have L := flat_len done
  rw [flat_snoc, flat_snoc, List.set_append_right _ _ (by omega), show d * 3 + 1 - (flat done).length = 1 by omega, List.set_append_right _ _ (by omega), show d * 3 + 2 - (flat done).length = 2 by omega]
  rfl

theorem Owns.upd {w : World} {B g cap d : Nat} {done : List Pt} {p : Pt} (h : Owns w B (.slice (some ⟨g, 0, none⟩) (d + 1) cap) (done ++ [p])) (hd : done.length = d) (a : Int) (b : ByteArray) :
    Owns ((w.setCell ⟨g, d * 3 + 1, none⟩ (.int .i64 a)).setCell ⟨g, d * 3 + 2, none⟩ (.string b)) B (.slice (some ⟨g, 0, none⟩) (d + 1) cap) (done ++ [⟨p.pos, a, b⟩]) := by
  unfold Owns at *
  have e : ∀ q : Pt, (done ++ [q]).length = d + 1 := fun q => by simp [hd]
  rw [e] at *
  rw [← flat_upd done p d hd]
  exact ((h.stored (d * 3 + 1) _).1.stored (d * 3 + 2) _).1
end Go.Proofs.Qxb6627435a
