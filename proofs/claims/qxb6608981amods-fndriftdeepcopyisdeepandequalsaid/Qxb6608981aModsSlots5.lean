/-
  zzBytes OF THE LAW OF DEEPCOPY (function 12; 324 slots): its frame's named slots.
-/
import Derived.Test.Qxb6608981aModsFrame
import Derived.Test.Qxb6608981aModsAns
namespace Go.Proofs.Qxb6608981aMods.Abs5
open Go.RowKit Go.Proofs.Qxb6608981aMods.Abs

/-- A part of a text: 0, 1: a sequence's first, rest; 2, 3: a test's two ways; 4: a block's inside; 5: a loop's. -/
def sub : List Nat → Option Code → Option Code
  | [], o => o
  | 0 :: p, some (.seq a _) => sub p (some a)
  | 1 :: p, some (.seq _ b) => sub p (some b)
  | 2 :: p, some (.cond _ x _) => sub p (some x)
  | 3 :: p, some (.cond _ _ y) => sub p (some y)
  | 4 :: p, some (.block _ c) => sub p (some c)
  | 5 :: p, some (.loop c) => sub p (some c)
  | _ :: _, _ => none
theorem wp_of_some {P : Program} {Q : Exit → Act → World → Prop} {a : Act} {w : World} {x : Option Code} {c c' : Code} (h : x = some c) (h' : x = some c') (hw : c'.wp P Q a w) : c.wp P Q a w := by
  rw [h] at h'
  cases h'
  exact hw

/-- The named slots. -/
structure Nm (p : Value) (z : Int) (i j : Value) (T : Array Value) : Prop where
  size : T.size = 324
  s0 : T.getD 0 undef = p
  s3 : T.getD 3 undef = .int .i64 z
  s4 : T.getD 4 undef = i
  s5 : T.getD 5 undef = j
variable {p : Value} {z : Int} {i j : Value} {T T' : Array Value}
theorem Nm.keep (h : Nm p z i j T) (k : Keep [0, 3, 4, 5] T T') : Nm p z i j T' :=
  ⟨k.size.trans h.size, (k.slot 0 (by decide)).trans h.s0, (k.slot 3 (by decide)).trans h.s3, (k.slot 4 (by decide)).trans h.s4, (k.slot 5 (by decide)).trans h.s5⟩
theorem Nm.setZ (h : Nm p z i j T) (z' : Int) : Nm p z' i j (T.setIfInBounds 3 (.int .i64 z')) :=
  ⟨(size_set _ _ _).trans h.size, (get_far _ _ _ _ (by decide)).trans h.s0, get_same _ _ _ (by rw [h.size]; decide), (get_far _ _ _ _ (by decide)).trans h.s4, (get_far _ _ _ _ (by decide)).trans h.s5⟩
theorem Nm.setI (h : Nm p z i j T) (v : Value) : Nm p z v j (T.setIfInBounds 4 v) :=
  ⟨(size_set _ _ _).trans h.size, (get_far _ _ _ _ (by decide)).trans h.s0, (get_far _ _ _ _ (by decide)).trans h.s3, get_same _ _ _ (by rw [h.size]; decide), (get_far _ _ _ _ (by decide)).trans h.s5⟩
theorem Nm.setJ (h : Nm p z i j T) (v : Value) : Nm p z i v (T.setIfInBounds 5 v) :=
  ⟨(size_set _ _ _).trans h.size, (get_far _ _ _ _ (by decide)).trans h.s0, (get_far _ _ _ _ (by decide)).trans h.s3, (get_far _ _ _ _ (by decide)).trans h.s4, get_same _ _ _ (by rw [h.size]; decide)⟩
end Go.Proofs.Qxb6608981aMods.Abs5
