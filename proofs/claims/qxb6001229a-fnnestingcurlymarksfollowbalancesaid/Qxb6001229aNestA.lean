/-
  The contract of 'document.ZZB1Closes' (function 15), which builds a nesting and calls '(*nesting).closes' (function 22, entered in place).
-/
import Derived.Test.Qxb6001229aRows
import Derived.WalkKit
import Derived.ProofKit
import Derived.Below
namespace Go.Proofs.Qxb6001229a.fnNesting
open Go.ChangeShapes Go.WideShapes Go.ChangeAt Go.RowKit

/-- How one move over a curly mark r turns the count o into o', and the closing c that is said. -/
def Move (o r o' c : Int) : Prop :=
  (o = -1 ∧ o' = -1 ∧ c = 2) ∨ (0 ≤ o ∧ o ≤ 4000000 ∧ r = 8220 ∧ o' = o + 1 ∧ c = 2) ∨ (1 < o ∧ o ≤ 4000000 ∧ r = 8221 ∧ o' = o - 1 ∧ c = 0) ∨
  (o = 1 ∧ r = 8221 ∧ o' = 0 ∧ c = 1) ∨ (o = 0 ∧ r = 8221 ∧ o' = -1 ∧ c = 2)

set_option maxHeartbeats 400000 in
theorem closes_any (o r o' c : Int) (w : World) (h : Move o r o' c) :
    Calls Try.prog 15 #[.int .i64 o, .int .i32 r] w fun e w' => e = .returned (.tuple #[.int .i64 o', .int .i64 c]) ∧ Below w.heap.size w w' := by
  rcases h with ⟨rfl, rfl, rfl⟩ | ⟨h0, h1, rfl, rfl, rfl⟩ | ⟨h0, h1, rfl, rfl, rfl⟩ | ⟨rfl, rfl, rfl, rfl⟩ | ⟨rfl, rfl, rfl, rfl⟩
  all_goals
    go_enter Try.func15, Try.ntmps15
    go_wp2
    go_ret2
    exact ⟨rfl, by repeat (first | exact Below.refl _ _ | refine Below.alloc ?_ (by simp) _ | refine Below.setCell ?_ (by simp) _)⟩
end Go.Proofs.Qxb6001229a.fnNesting
