/-
  CONTRACTS of the functions on the two laws' roads.
-/
import Derived.Test.Qxb6618737aModsRows
import Derived.WalkKit
import Derived.ProofKit
import Derived.OpenShut
import Derived.WalkSpells
import Derived.Deep.QuietTactic
import Derived.BigQuiet
namespace Go.Proofs.Qxb6618737aMods
open Go.RowKit

/-- What a sum stands for. -/
def ofS (x f : ByteArray) : ByteArray := if f.toList.isEmpty then x else f

/-- Same. -/
def sameB (x f y g : ByteArray) : Bool := (ofS x f).toList == (ofS y g).toList

theorem ret_str {a b : ByteArray} (h : a = b) : Ending.returned (.string a) = .returned (.string b) := by rw [h]

set_option maxHeartbeats 400000 in
theorem of_calls (x f : ByteArray) (w : World) : Calls Trym.prog 8 #[.agg #[.string x, .string f]] w fun e w' => e = .returned (.string (ofS x f)) ∧ Below w.heap.size w w' := by
  cases hf : f.toList.isEmpty with
  | true =>
    have HE : Hid (x = ofS x f) := by show _ = _; simp [ofS, hf]
    generalize ofS x f = r at *
    go_enter Trym.func8, Trym.ntmps8
    go_wp2
    go_ret
    exact ⟨ret_str HE.out, (Below.refl _ _).alloc (Nat.le_refl _) _⟩
  | false =>
    have HE : Hid (f = ofS x f) := by show _ = _; simp [ofS, hf]
    generalize ofS x f = r at *
    go_enter Trym.func8, Trym.ntmps8
    go_wp2
    go_ret
    exact ⟨ret_str HE.out, (Below.refl _ _).alloc (Nat.le_refl _) _⟩

/-- A world that below block number B is as W was. -/
structure Near (B : Nat) (W : World) where
  w : World
  h : Below B W w

theorem Near.cellAt {B : Nat} {W : World} {b o : Nat} {v : Value} (hb : b < B) (h : W.cell? ⟨b, o, none⟩ = some v) : ∀ u : Near B W, u.w.cell? ⟨b, o, none⟩ = some v :=
  fun u => (u.h.cell (p := ⟨b, o, none⟩) hb).trans h

/-- A callee's contract, met in a world of the class. -/
theorem near_call {B : Nat} {W : World} {f : FuncId} {args : Array Value} {v : Value} (hB : B ≤ W.heap.size) (u : Near B W)
    (h : Calls Trym.prog f args u.w fun e w' => e = .returned v ∧ Below u.w.heap.size u.w w') : Calls Trym.prog f args u.w fun e w'' => e = .returned v ∧ ∃ u' : Near B W, w'' = u'.w :=
  h.mono fun _ w' ⟨he, hb⟩ => ⟨he, ⟨w', u.h.trans (hb.mono (Nat.le_trans hB u.h.size))⟩, rfl⟩

/-- A region that draws its order, walked once, in the order of the text: every operation yields ONE value in every world of the class. -/
theorem wp_region_near {P : Program} {id : Nat} {Q : Exit → Act → World → Prop} {a : Act} {W : World} {l : List Oper} (B : Nat) (hm : P.follows .mixedOrders = true) (hB : Region.lexB .any l.toArray = true)
    (h : wpQuiet P l.toArray (fun w' => ∃ u : Near B W, w' = u.w) (fun a' => ∀ w', (∃ u : Near B W, w' = u.w) → Q .normal a' w') l a) : (Code.region id l.toArray true).wp P Q a W :=
  wp_region_quiet (C := fun w' => ∃ u : Near B W, w' = u.w) hm hB ⟨⟨W.drew, (Below.refl _ _).drew⟩, rfl⟩ (by simpa using h)

set_option maxHeartbeats 400000 in
theorem same_calls (x f y g : ByteArray) (w : World) : Calls Trym.prog 6 #[.agg #[.string x, .string f], .agg #[.string y, .string g]] w fun e w' => e = .returned (.bool (sameB x f y g)) ∧ Below w.heap.size w w' := by
  go_enter Trym.func6, Trym.ntmps6
  go_wp2
  have hB : Hid (Below w.heap.size w ((w.alloc (Obj.cells #[Value.string x, Value.string f] 24)).alloc (Obj.cells #[Value.string y, Value.string g] 24))) := ((Below.refl _ _).alloc (Nat.le_refl _) _).alloc (by simp) _
  generalize hW : (w.alloc (Obj.cells #[Value.string x, Value.string f] 24)).alloc (Obj.cells #[Value.string y, Value.string g] 24) = W at *
  have hs : W.heap.size = w.heap.size + 2 := by rw [← hW]; simp
  have c0 : W.cell? ⟨w.heap.size, 0, none⟩ = some (.string x) := by rw [← hW]; simp
  have c1 : W.cell? ⟨w.heap.size, 1, none⟩ = some (.string f) := by rw [← hW]; simp
  have c2 : W.cell? ⟨w.heap.size + 1, 0, none⟩ = some (.string y) := by rw [← hW]; simp
  have c3 : W.cell? ⟨w.heap.size + 1, 1, none⟩ = some (.string g) := by rw [← hW]; simp
  clear hW
  have n0 := Near.cellAt (B := w.heap.size + 2) (by omega) c0
  have n1 := Near.cellAt (B := w.heap.size + 2) (by omega) c1
  have n2 := Near.cellAt (B := w.heap.size + 2) (by omega) c2
  have n3 := Near.cellAt (B := w.heap.size + 2) (by omega) c3
  have hne : Nonempty (Near (w.heap.size + 2) W) := ⟨⟨W, Below.refl _ _⟩⟩
  refine wp_region_near (w.heap.size + 2) (by kernel_rfl) (by kernel_rfl) ?_
  clear c0 c1 c2 c3
  repeat (go_big_quiet_step ((go_at_call 8; exact near_call (by omega) _ (of_calls _ _ _))))
  refine wpQuiet_nil ?_
  rintro _ ⟨u, rfl⟩
  clear n0 n1 n2 n3
  go_wp2
  go_ret
  exact ⟨rfl, hB.out.trans (u.h.mono (by omega))⟩

theorem same_at (x f y g : ByteArray) (b : Bool) (h : sameB x f y g = b) (w : World) : Calls Trym.prog 6 #[.agg #[.string x, .string f], .agg #[.string y, .string g]] w fun e w' => e = .returned (.bool b) ∧ Below w.heap.size w w' :=
  h ▸ same_calls x f y g w

theorem ret_bool {a b : Bool} (h : a = b) : Ending.returned (.bool a) = .returned (.bool b) := by rw [h]

def zz4 (a b c d : Nat) : Bool := decide (a + b + c + d ≤ 1048576)
def zz6 (a b c d e f : Nat) : Bool := decide (a + b + c + d + e + f ≤ 1048576)

set_option maxHeartbeats 400000 in
theorem zz4_calls (x a c d : ByteArray) (hx : x.size ≤ maxLen) (ha : a.size ≤ maxLen) (hc : c.size ≤ maxLen) (hd : d.size ≤ maxLen) (w : World) :
    Calls Trym.prog 5 #[.string x, .string a, .string c, .string d] w fun e w' => e = .returned (.bool (zz4 x.size a.size c.size d.size)) ∧ w = w' := by
  unfold maxLen at hx ha hc hd
  go_enter Trym.func5, Trym.ntmps5
  go_wp2
  all_goals
    go_ret
    exact ⟨ret_bool (by first | exact (decide_eq_false (by omega)).symm | exact (decide_eq_true (by omega)).symm), rfl⟩

set_option maxHeartbeats 400000 in
theorem zz6_calls (x a c d e f : ByteArray) (hx : x.size ≤ maxLen) (ha : a.size ≤ maxLen) (hc : c.size ≤ maxLen) (hd : d.size ≤ maxLen) (he : e.size ≤ maxLen) (hf : f.size ≤ maxLen) (w : World) :
    Calls Trym.prog 7 #[.string x, .string a, .string c, .string d, .string e, .string f] w fun r w' => r = .returned (.bool (zz6 x.size a.size c.size d.size e.size f.size)) ∧ w = w' := by
  unfold maxLen at hx ha hc hd he hf
  go_enter Trym.func7, Trym.ntmps7
  go_wp2
  all_goals
    go_ret
    exact ⟨ret_bool (by first | exact (decide_eq_false (by omega)).symm | exact (decide_eq_true (by omega)).symm), rfl⟩

/-! ### The plain facts on 'Same' -/
theorem sameB_self (x f : ByteArray) : sameB x f x f = true := by simp [sameB]
theorem ofS_empty (x : ByteArray) : ofS x { data := #[] } = x := by
  have h : (ByteArray.mk #[]).toList.isEmpty = true := by decide +kernel
  unfold ofS
  rw [if_pos h]
theorem ofS_some (x f : ByteArray) (h : f.toList.isEmpty = false) : ofS x f = f := by
  unfold ofS
  rw [h]
  rfl
theorem sameB_comm (x f y g : ByteArray) : sameB x f y g = sameB y g x f := by
  unfold sameB
  rw [Bool.eq_iff_iff, beq_iff_eq, beq_iff_eq]
  exact ⟨Eq.symm, Eq.symm⟩
theorem sameB_trans (x f y g z h : ByteArray) (h1 : sameB x f y g = true) (h2 : sameB y g z h = true) : sameB x f z h = true := by
  unfold sameB at *
  simp only [beq_iff_eq] at *
  rw [h1, h2]
end Go.Proofs.Qxb6618737aMods
