import Derived.Test.Qxb6627498aWalkA
import Derived.Shelf.GgClosure.StringsIndexFuncTop
import Derived.Shelf.Lay
import Derived.Ground.GgwProg
namespace Go.Proofs.Qxb6627498a
open Go.RowKit Go.Shelf Go.Lib
open Plain (upI loI key NoLow FoldEq lowN)
set_option linter.unusedVariables false

shelf_lay LaysGw.n15 Ggw 15 at Try as Try.l15

theorem pred (w : World) : PredAt Try.prog 11 #[] encR lowN w := fun W r _ => by
  unfold FnGives
  by_cases h1 : 97 ≤ r <;> by_cases h2 : r ≤ 122
  all_goals
    have z1 : (97 : Int) ≤ (r : Int) ↔ 97 ≤ r := by omega
    have z2 : (r : Int) ≤ 122 ↔ r ≤ 122 := by omega
    go_enter Try.func11, Try.ntmps11
    go_wp2
    all_goals first | (exfalso; omega) | (go_ret; exact ⟨by simp [lowN, h1, h2], 0, rfl⟩)

theorem idx_calls (s : ByteArray) (w : World) :
    Calls Try.prog 10 #[.string s, .func (.func 11) #[] #[]] w fun e w' => e = .returned (.int .i64 (Lib.idxFunc lowN true s)) ∧ Below w.heap.size w w' :=
  Any.strings_IndexFunc Try.l15 11 #[] (enters_of Try.func11 (by kernel_rfl) rfl) _ s w (pred w)
end Go.Proofs.Qxb6627498a
