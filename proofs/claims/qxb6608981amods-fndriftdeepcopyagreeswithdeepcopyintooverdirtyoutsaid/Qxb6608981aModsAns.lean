/-
  WHAT zzBytes ANSWERS; a step of the walk at a round's end.
-/
import Derived.Test.Qxb6608981aModsBudget
namespace Go.Proofs.Qxb6608981aMods
open Go.RowKit

/-- It answers a bool, and changes nothing. -/
def Ans (w : World) (e : Ending) (w' : World) : Prop := ∃ x, e = .returned (.bool x) ∧ w = w'
theorem ans (w : World) (x : Bool) : Ans w (.returned (.bool x)) w := ⟨x, rfl, rfl⟩

theorem then_normal {K : Act → World → Prop} {Q : Exit → Act → World → Prop} {a : Act} {w : World} (h : K a w) : Exit.then K Q .normal a w := h
end Go.Proofs.Qxb6608981aMods
