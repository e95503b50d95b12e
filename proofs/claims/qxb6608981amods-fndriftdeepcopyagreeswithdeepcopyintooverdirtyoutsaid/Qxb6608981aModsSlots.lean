/-
  zzBytes OF THE LAW OF DEEPCOPYINTO (function 18; 646 slots): its frame's named slots.
-/
import Derived.Test.Qxb6608981aModsFrame
import Derived.Test.Qxb6608981aModsAns
namespace Go.Proofs.Qxb6608981aMods.Abs
open Go.RowKit

/-- A part of a text: 0, 1: a sequence's first, rest; 2, 3: a test's two ways; 4: a block's inside; 5: a loop's. -/
def sub : List Nat → Option Code → Option Code
  | [], o => o
  | 0 :: p, some (.seq a _) => sub p (some a)
  | 1 :: p, some (.seq _ b) => sub p (some b)
  | 2 :: p, some (.cond _ x _) => sub p (some x)
  | 3 :: p, some (.cond _ _ y) => sub p (some y)
  | 4 :: p, some (.block _ c) => sub p (some c)
  | 5 :: p, some (.loop c) => sub p (some c)
  | _ :: _, _ => none
theorem wp_of_some {P : Program} {Q : Exit → Act → World → Prop} {a : Act} {w : World} {x : Option Code} {c c' : Code} (h : x = some c) (h' : x = some c') (hw : c'.wp P Q a w) : c.wp P Q a w := by
  rw [h] at h'
  cases h'
  exact hw

/-- The named slots. -/
structure Nm (p e : Value) (z : Int) (i j i2 j2 : Value) (T : Array Value) : Prop where
  size : T.size = 646
  s0 : T.getD 0 undef = p
  s1 : T.getD 1 undef = e
  s5 : T.getD 5 undef = .int .i64 z
  s6 : T.getD 6 undef = i
  s7 : T.getD 7 undef = j
  s8 : T.getD 8 undef = i2
  s9 : T.getD 9 undef = j2
variable {p e : Value} {z : Int} {i j i2 j2 : Value} {T T' : Array Value}
theorem Nm.keep (h : Nm p e z i j i2 j2 T) (k : Keep [0, 1, 5, 6, 7, 8, 9] T T') : Nm p e z i j i2 j2 T' :=
  ⟨k.size.trans h.size, (k.slot 0 (by decide)).trans h.s0, (k.slot 1 (by decide)).trans h.s1, (k.slot 5 (by decide)).trans h.s5, (k.slot 6 (by decide)).trans h.s6, (k.slot 7 (by decide)).trans h.s7, (k.slot 8 (by decide)).trans h.s8, (k.slot 9 (by decide)).trans h.s9⟩
theorem Nm.set5 (h : Nm p e z i j i2 j2 T) (z' : Int) : Nm p e z' i j i2 j2 (T.setIfInBounds 5 (.int .i64 z')) := ⟨(size_set _ _ _).trans h.size, (get_far _ _ _ _ (by decide)).trans h.s0, (get_far _ _ _ _ (by decide)).trans h.s1, get_same _ _ _ (by rw [h.size]; decide), (get_far _ _ _ _ (by decide)).trans h.s6, (get_far _ _ _ _ (by decide)).trans h.s7, (get_far _ _ _ _ (by decide)).trans h.s8, (get_far _ _ _ _ (by decide)).trans h.s9⟩
theorem Nm.set6 (h : Nm p e z i j i2 j2 T) (v : Value) : Nm p e z v j i2 j2 (T.setIfInBounds 6 v) := ⟨(size_set _ _ _).trans h.size, (get_far _ _ _ _ (by decide)).trans h.s0, (get_far _ _ _ _ (by decide)).trans h.s1, (get_far _ _ _ _ (by decide)).trans h.s5, get_same _ _ _ (by rw [h.size]; decide), (get_far _ _ _ _ (by decide)).trans h.s7, (get_far _ _ _ _ (by decide)).trans h.s8, (get_far _ _ _ _ (by decide)).trans h.s9⟩
theorem Nm.set7 (h : Nm p e z i j i2 j2 T) (v : Value) : Nm p e z i v i2 j2 (T.setIfInBounds 7 v) := ⟨(size_set _ _ _).trans h.size, (get_far _ _ _ _ (by decide)).trans h.s0, (get_far _ _ _ _ (by decide)).trans h.s1, (get_far _ _ _ _ (by decide)).trans h.s5, (get_far _ _ _ _ (by decide)).trans h.s6, get_same _ _ _ (by rw [h.size]; decide), (get_far _ _ _ _ (by decide)).trans h.s8, (get_far _ _ _ _ (by decide)).trans h.s9⟩
theorem Nm.set8 (h : Nm p e z i j i2 j2 T) (v : Value) : Nm p e z i j v j2 (T.setIfInBounds 8 v) := ⟨(size_set _ _ _).trans h.size, (get_far _ _ _ _ (by decide)).trans h.s0, (get_far _ _ _ _ (by decide)).trans h.s1, (get_far _ _ _ _ (by decide)).trans h.s5, (get_far _ _ _ _ (by decide)).trans h.s6, (get_far _ _ _ _ (by decide)).trans h.s7, get_same _ _ _ (by rw [h.size]; decide), (get_far _ _ _ _ (by decide)).trans h.s9⟩
theorem Nm.set9 (h : Nm p e z i j i2 j2 T) (v : Value) : Nm p e z i j i2 v (T.setIfInBounds 9 v) := ⟨(size_set _ _ _).trans h.size, (get_far _ _ _ _ (by decide)).trans h.s0, (get_far _ _ _ _ (by decide)).trans h.s1, (get_far _ _ _ _ (by decide)).trans h.s5, (get_far _ _ _ _ (by decide)).trans h.s6, (get_far _ _ _ _ (by decide)).trans h.s7, (get_far _ _ _ _ (by decide)).trans h.s8, get_same _ _ _ (by rw [h.size]; decide)⟩
end Go.Proofs.Qxb6608981aMods.Abs
