/-
  Times in memory; worlds near a world.
-/
import Derived.Test.Qxb6608639aModsLists
import Derived.Test.Qxb6608639aModsLast
namespace Go.Proofs.Qxb6608639aMods
open Go.RowKit

/-- A time lies at block b, whole and open to writes. -/
structure TimeAt (w : World) (b : Nat) (d : Int) : Prop where
  c0 : w.cell? ⟨b, 0, none⟩ = some (.int .u64 (d % 1000000000))
  c1 : w.cell? ⟨b, 1, none⟩ = some (.int .i64 (d / 1000000000))
  c2 : w.cell? ⟨b, 2, none⟩ = some (.pointer none)
  f0 : w.frozen? ⟨b, 0, none⟩ = false
  f1 : w.frozen? ⟨b, 1, none⟩ = false
  f2 : w.frozen? ⟨b, 2, none⟩ = false

theorem TimeAt.lt {w : World} {b : Nat} {d : Int} (h : TimeAt w b d) : b < w.heap.size := World.block_lt_of_cell? w _ h.c0
theorem TimeAt.later {w w' : World} {b : Nat} {d : Int} (h : TimeAt w b d) {B : Nat} (hb : Below B w w') (hB : b < B) : TimeAt w' b d :=
  ⟨(hb.cell (p := ⟨b, 0, none⟩) hB).trans h.c0, (hb.cell (p := ⟨b, 1, none⟩) hB).trans h.c1, (hb.cell (p := ⟨b, 2, none⟩) hB).trans h.c2,
   (hb.frozen (p := ⟨b, 0, none⟩) hB).trans h.f0, (hb.frozen (p := ⟨b, 1, none⟩) hB).trans h.f1, (hb.frozen (p := ⟨b, 2, none⟩) hB).trans h.f2⟩

theorem TimeAt.made (w : World) (d : Int) : TimeAt (w.alloc (.cells #[.int .u64 (d % 1000000000), .int .i64 (d / 1000000000), .pointer none] 27)) w.heap.size d :=
  ⟨by simp, by simp, by simp, by simp [go_sem], by simp [go_sem], by simp [go_sem]⟩

/-- The world behind a store of a time. -/
def set3 (w : World) (b : Nat) (d : Int) : World :=
  ((w.setCell ⟨b, 0, none⟩ (.int .u64 (d % 1000000000))).setCell ⟨b, 1, none⟩ (.int .i64 (d / 1000000000))).setCell ⟨b, 2, none⟩ (.pointer none)

theorem TimeAt.stored {w : World} {b : Nat} {d : Int} (h : TimeAt w b d) (e : Int) : TimeAt (set3 w b e) b e := by
  obtain ⟨c0, c1, c2, f0, f1, f2⟩ := h
  unfold set3
  refine ⟨?_, ?_, ?_, ?_, ?_, ?_⟩ <;> simp [go_sem, c0, c1, c2, f0, f1, f2]
theorem TimeAt.beside {w : World} {b b' : Nat} {d : Int} (h : TimeAt w b d) (hne : b ≠ b') (e : Int) : TimeAt (set3 w b' e) b d := by
  obtain ⟨c0, c1, c2, f0, f1, f2⟩ := h
  unfold set3
  refine ⟨?_, ?_, ?_, ?_, ?_, ?_⟩ <;> simp [go_sem, c0, c1, c2, f0, f1, f2]
theorem below_set {B : Nat} {w w' : World} (h : Below B w w') {b : Nat} (hb : B ≤ b) (d : Int) : Below B w (set3 w' b d) :=
  ((h.setCell (p := ⟨b, 0, none⟩) hb _).setCell (p := ⟨b, 1, none⟩) hb _).setCell (p := ⟨b, 2, none⟩) hb _

/-- A world that below block number B is as W was. -/
structure Near (B : Nat) (W : World) where
  w : World
  h : Below B W w
theorem Near.cellAt {B : Nat} {W : World} {b o : Nat} {v : Value} (hb : b < B) (h : W.cell? ⟨b, o, none⟩ = some v) : ∀ u : Near B W, u.w.cell? ⟨b, o, none⟩ = some v :=
  fun u => (u.h.cell (p := ⟨b, o, none⟩) hb).trans h
theorem Near.openAt {B : Nat} {W : World} {b o : Nat} (hb : b < B) (h : W.frozen? ⟨b, o, none⟩ = false) : ∀ u : Near B W, u.w.frozen? ⟨b, o, none⟩ = false :=
  fun u => (u.h.frozen (p := ⟨b, o, none⟩) hb).trans h
theorem near_call {B : Nat} {W : World} {f : FuncId} {args : Array Value} {v : Value} (hB : B ≤ W.heap.size) (u : Near B W)
    (h : Calls Trym.prog f args u.w fun e w' => e = .returned v ∧ Below u.w.heap.size u.w w') : Calls Trym.prog f args u.w fun e w'' => e = .returned v ∧ ∃ u' : Near B W, w'' = u'.w :=
  h.mono fun _ w' ⟨he, hb⟩ => ⟨he, ⟨w', u.h.trans (hb.mono (Nat.le_trans hB u.h.size))⟩, rfl⟩
theorem wp_region_near {P : Program} {id : Nat} {Q : Exit → Act → World → Prop} {a : Act} {W : World} {l : List Oper} (B : Nat) (hm : P.follows .mixedOrders = true) (hB : Region.lexB .any l.toArray = true)
    (h : wpQuiet P l.toArray (fun w' => ∃ u : Near B W, w' = u.w) (fun a' => ∀ w', (∃ u : Near B W, w' = u.w) → Q .normal a' w') l a) : (Code.region id l.toArray true).wp P Q a W :=
  wp_region_quiet (C := fun w' => ∃ u : Near B W, w' = u.w) hm hB ⟨⟨W.drew, (Below.refl _ _).drew⟩, rfl⟩ (by simpa using h)
theorem wp_region_near_last {P : Program} {id : Nat} {Q : Exit → Act → World → Prop} {a : Act} {W : World} {k : List Oper} {y : Oper} (B : Nat) (hk : k.getLast? = some y) (hm : P.follows .mixedOrders = true) (hd : y.dst = none)
    (hB : Region.lexB .any (k.dropLast ++ [Last.idle y]).toArray = true) (hb : Last.backB k.toArray = true) (hwt : Last.waitsB k.toArray k.dropLast.length = true)
    (h : wpQuiet P k.toArray (fun w' => ∃ u : Near B W, w' = u.w) (fun a' => ∀ w', (∃ u : Near B W, w' = u.w) → wpList P k.toArray Q [y] a' w') k.dropLast a) : (Code.region id k.toArray true).wp P Q a W :=
  Last.wp_region_last_lit (fun w' => ∃ u : Near B W, w' = u.w) hk hm hd hB hb hwt ⟨⟨W.drew, (Below.refl _ _).drew⟩, rfl⟩ h

/-! ### For a region that makes a block beside its calls: the zero time's cells, and that all is below -/
theorem sOf {W w' : World} {b : Nat} (h : TimeAt W b 0) (hb : Below W.heap.size W w') :
    w'.cell? ⟨b, 0, none⟩ = some (.int .u64 0) ∧ w'.cell? ⟨b, 1, none⟩ = some (.int .i64 0) ∧ w'.cell? ⟨b, 2, none⟩ = some (.pointer none) ∧ Below W.heap.size W w' := by
  have k := h.later hb h.lt
  refine ⟨?_, ?_, k.c2, hb⟩
  · simpa using k.c0
  · simpa using k.c1
theorem sAlloc {W w' : World} {p q r : Prop} (h : p ∧ q ∧ r ∧ Below W.heap.size W w') (o : Obj) : Below W.heap.size W (w'.alloc o) := h.2.2.2.alloc h.2.2.2.size o
theorem sCall {W w' w1 : World} {p q r : Prop} (h : p ∧ q ∧ r ∧ Below W.heap.size W w') (hb : Below w'.heap.size w' w1) : Below W.heap.size W w1 := h.2.2.2.trans (hb.mono h.2.2.2.size)

theorem sSet {W w' : World} (hb : Below W.heap.size W w') (d : Int) : Below W.heap.size W (((w'.setCell ⟨W.heap.size, 0, none⟩ (.int .u64 (d % 1000000000))).setCell ⟨W.heap.size, 1, none⟩ (.int .i64 (d / 1000000000))).setCell ⟨W.heap.size, 2, none⟩ (.pointer none)) :=
  below_set hb (Nat.le_refl _) d

/-! ### The contracts, the times written out -/
theorem addL (d : Int) (h : -9223372036854775808 ≤ d ∧ d ≤ 9223372036854775807) (w : World) :
    Calls Trym.prog 8 #[.agg #[.int .u64 0, .int .i64 0, .pointer none], .int .i64 d] w fun e w' => e = .returned (.agg #[.int .u64 (d % 1000000000), .int .i64 (d / 1000000000), .pointer none]) ∧ Below w.heap.size w w' :=
  add_calls d h.1 h.2 w
theorem zzL (a b : Int) (w : World) :
    Calls Trym.prog 7 #[.agg #[.int .u64 (a % 1000000000), .int .i64 (a / 1000000000), .pointer none], .agg #[.int .u64 (b % 1000000000), .int .i64 (b / 1000000000), .pointer none]] w fun e w' =>
      e = .returned (.agg #[.int .u64 (soon a b % 1000000000), .int .i64 (soon a b / 1000000000), .pointer none]) ∧ Below w.heap.size w w' :=
  zz_calls a b w
theorem equalL (a b : Int) (c : Bool) (h : decide (a = b) = c) (w : World) :
    Calls Trym.prog 11 #[.agg #[.int .u64 (a % 1000000000), .int .i64 (a / 1000000000), .pointer none], .agg #[.int .u64 (b % 1000000000), .int .i64 (b / 1000000000), .pointer none]] w fun e w' =>
      e = .returned (.bool c) ∧ Below w.heap.size w w' :=
  h ▸ equal_calls a b w
theorem isZeroL (a : Int) (c : Bool) (h : decide (a = 0) = c) (w : World) :
    Calls Trym.prog 9 #[.agg #[.int .u64 (a % 1000000000), .int .i64 (a / 1000000000), .pointer none]] w fun e w' =>
      e = .returned (.bool c) ∧ Below w.heap.size w w' :=
  h ▸ isZero_calls a w
end Go.Proofs.Qxb6608639aMods
