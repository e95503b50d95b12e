/-
  THE MEMORY OF A DRIFT: the caller's (read only, wherever it lies) and the call's own (block numbers in an interval, built in order).
-/
import Derived.Test.Qxb6608981aModsRows
import Derived.Test.Qxb6608981aModsLast
import Derived.WalkKit
import Derived.ProofKit
import Derived.OpenShut
import Derived.WalkSpells
import Derived.Deep.QuietTactic
import Derived.BigQuiet
import Derived.Deep.RegionHeld3
namespace Go.Proofs.Qxb6608981aMods
open Go.RowKit

/-! ### The data -/
/-- nil, or n strings. -/
abbrev Pth : Type := Option (Nat × (Nat → ByteArray))
/-- nil, or seven strings. -/
abbrev Tgt : Type := Option (Nat → ByteArray)
/-- nil, or n rules. -/
abbrev Igs : Type := Option (Nat × (Nat → Pth) × (Nat → Tgt))

def PthB : Pth → Prop
  | none => True
  | some (n, f) => n ≤ 1048576 ∧ ∀ t, t < n → (f t).size ≤ 1048576
def TgtB : Tgt → Prop
  | none => True
  | some f => ∀ t, t < 7 → (f t).size ≤ 1048576
def IgsB : Igs → Prop
  | none => True
  | some (n, P, T) => n ≤ 1048576 ∧ ∀ k, k < n → PthB (P k) ∧ TgtB (T k)

/-! ### What came in -/
def ZP (w : World) (v : Value) : Pth → Prop
  | none => v = .slice none 0 0
  | some (n, f) => ∃ a c, v = .slice (some a) n c ∧ n ≤ maxLen ∧ (0 < n → ∃ b o, a = ⟨b, o, none⟩ ∧ b < w.heap.size ∧ ∀ t, t < n → w.cell? ⟨b, o + t, none⟩ = some (.string (f t)) ∧ (f t).size ≤ maxLen)
def ZT (w : World) (v : Value) : Tgt → Prop
  | none => v = .pointer none
  | some f => ∃ b o, v = .pointer (some ⟨b, o, none⟩) ∧ b < w.heap.size ∧ ∀ t, t < 7 → w.cell? ⟨b, o + t, none⟩ = some (.string (f t)) ∧ (f t).size ≤ maxLen
def ZI (w : World) (v : Value) : Igs → Prop
  | none => v = .slice none 0 0
  | some (n, P, T) => ∃ a c, v = .slice (some a) n c ∧ n ≤ maxLen ∧ (0 < n → ∃ (b o : Nat) (vP vT : Nat → Value), a = ⟨b, o, none⟩ ∧ b < w.heap.size ∧
      ∀ k, k < n → w.cell? ⟨b, o + k * 2, none⟩ = some (vP k) ∧ w.cell? ⟨b, o + k * 2 + 1, none⟩ = some (vT k) ∧ ZP w (vP k) (P k) ∧ ZT w (vT k) (T k))
/-- A drift behind the pointer to block b, offset o. -/
def ZD (w : World) (b o : Nat) (md : ByteArray) (ig : Igs) : Prop :=
  b < w.heap.size ∧ md.size ≤ maxLen ∧ w.cell? ⟨b, o, none⟩ = some (.string md) ∧ ∃ v, w.cell? ⟨b, o + 1, none⟩ = some v ∧ ZI w v ig

theorem below_cell {B : Nat} {w w' : World} (h : Below B w w') {b o : Nat} (hb : b < B) : w'.cell? ⟨b, o, none⟩ = w.cell? ⟨b, o, none⟩ := h.cell (p := ⟨b, o, none⟩) hb

theorem below_frozen {B : Nat} {w w' : World} (h : Below B w w') {b o : Nat} (hb : b < B) : w'.frozen? ⟨b, o, none⟩ = w.frozen? ⟨b, o, none⟩ := h.frozen (p := ⟨b, o, none⟩) hb

theorem ZP.later {w w' : World} (h : Below w.heap.size w w') {v : Value} {p : Pth} (z : ZP w v p) : ZP w' v p := by
  cases p with
  | none => exact z
  | some p =>
    obtain ⟨a, c, hv, hn, hc⟩ := z
    refine ⟨a, c, hv, hn, fun hp => ?_⟩
    obtain ⟨b, o, ha, hb, hk⟩ := hc hp
    exact ⟨b, o, ha, Nat.lt_of_lt_of_le hb h.size, fun t ht => ⟨(below_cell h hb).trans (hk t ht).1, (hk t ht).2⟩⟩
theorem ZT.later {w w' : World} (h : Below w.heap.size w w') {v : Value} {p : Tgt} (z : ZT w v p) : ZT w' v p := by
  cases p with
  | none => exact z
  | some p =>
    obtain ⟨b, o, hv, hb, hk⟩ := z
    exact ⟨b, o, hv, Nat.lt_of_lt_of_le hb h.size, fun t ht => ⟨(below_cell h hb).trans (hk t ht).1, (hk t ht).2⟩⟩
theorem ZI.later {w w' : World} (h : Below w.heap.size w w') {v : Value} {p : Igs} (z : ZI w v p) : ZI w' v p := by
  cases p with
  | none => exact z
  | some p =>
    obtain ⟨n, P, T⟩ := p
    obtain ⟨a, c, hv, hn, hc⟩ := z
    refine ⟨a, c, hv, hn, fun hp => ?_⟩
    obtain ⟨b, o, vP, vT, ha, hb, hk⟩ := hc hp
    exact ⟨b, o, vP, vT, ha, Nat.lt_of_lt_of_le hb h.size, fun t ht => ⟨(below_cell h hb).trans (hk t ht).1, (below_cell h hb).trans (hk t ht).2.1, (hk t ht).2.2.1.later h, (hk t ht).2.2.2.later h⟩⟩
theorem ZD.later {w w' : World} (h : Below w.heap.size w w') {b o : Nat} {md : ByteArray} {ig : Igs} (z : ZD w b o md ig) : ZD w' b o md ig := by
  obtain ⟨hb, hm, hc, v, hv, hz⟩ := z
  exact ⟨Nat.lt_of_lt_of_le hb h.size, hm, (below_cell h hb).trans hc, v, (below_cell h hb).trans hv, hz.later h⟩

/-! ### What the call made -/
/-- Strings at the head of a block of the call's own. -/
structure Own (w : World) (g n : Nat) (f : Nat → ByteArray) : Prop where
  cell : ∀ t, t < n → w.cell? ⟨g, t, none⟩ = some (.string (f t))
  free : ∀ t, t < n → w.frozen? ⟨g, t, none⟩ = false
def PIn (w : World) (a b : Nat) (v : Value) : Pth → Prop
  | none => v = .slice none 0 0
  | some (n, f) => ∃ g, v = .slice (some ⟨g, 0, none⟩) n n ∧ a ≤ g ∧ g < b ∧ n ≤ maxLen ∧ Own w g n f
def TIn (w : World) (a b : Nat) (v : Value) : Tgt → Prop
  | none => v = .pointer none
  | some f => ∃ g, v = .pointer (some ⟨g, 0, none⟩) ∧ a ≤ g ∧ g < b ∧ Own w g 7 f
/-- A rule: its paths lie ahead of its target. -/
def RIn (w : World) (a b : Nat) (vP vT : Value) (P : Pth) (T : Tgt) : Prop := ∃ c, a ≤ c ∧ c ≤ b ∧ PIn w a c vP P ∧ TIn w c b vT T
/-- Rule number k of the row in block g. -/
structure RAt (w : World) (g k a b : Nat) (vP vT : Value) (P : Pth) (T : Tgt) : Prop where
  c0 : w.cell? ⟨g, k * 2, none⟩ = some vP
  c1 : w.cell? ⟨g, k * 2 + 1, none⟩ = some vT
  f0 : w.frozen? ⟨g, k * 2, none⟩ = false
  f1 : w.frozen? ⟨g, k * 2 + 1, none⟩ = false
  rule : RIn w a b vP vT P T
def IIn (w : World) (a b : Nat) (v : Value) : Igs → Prop
  | none => v = .slice none 0 0
  | some (n, P, T) => ∃ (g : Nat) (m : Nat → Nat) (vP vT : Nat → Value), v = .slice (some ⟨g, 0, none⟩) n n ∧ a ≤ g ∧ n ≤ maxLen ∧ m 0 = g + 1 ∧ m n ≤ b ∧ ∀ k, k < n → RAt w g k (m k) (m (k + 1)) (vP k) (vT k) (P k) (T k)
structure DIn (w : World) (a b g : Nat) (md : ByteArray) (ig : Igs) : Prop where
  lo : a ≤ g
  c0 : w.cell? ⟨g, 0, none⟩ = some (.string md)
  f0 : w.frozen? ⟨g, 0, none⟩ = false
  f1 : w.frozen? ⟨g, 1, none⟩ = false
  ig : ∃ v, w.cell? ⟨g, 1, none⟩ = some v ∧ IIn w (g + 1) b v ig
  hi : g < b

/-- The blocks from a to b are as they were. -/
def Agree (a b : Nat) (w w' : World) : Prop := ∀ k, a ≤ k → k < b → w'.heap[k]? = w.heap[k]?
theorem Agree.cell {a b : Nat} {w w' : World} (h : Agree a b w w') {g o : Nat} (h1 : a ≤ g) (h2 : g < b) : w'.cell? ⟨g, o, none⟩ = w.cell? ⟨g, o, none⟩ := World.cell?_of_block (w := w) (h g h1 h2)
theorem Agree.frozen {a b : Nat} {w w' : World} (h : Agree a b w w') {g o : Nat} (h1 : a ≤ g) (h2 : g < b) : w'.frozen? ⟨g, o, none⟩ = w.frozen? ⟨g, o, none⟩ := World.frozen?_of_block (w := w) (h g h1 h2)
theorem Agree.mono {a b a' b' : Nat} {w w' : World} (h : Agree a b w w') (h1 : a ≤ a') (h2 : b' ≤ b) : Agree a' b' w w' := fun k hk hk' => h k (by omega) (by omega)
theorem Agree.trans {a b : Nat} {w w' w'' : World} (h : Agree a b w w') (k : Agree a b w' w'') : Agree a b w w'' := fun i h1 h2 => (k i h1 h2).trans (h i h1 h2)
theorem Agree.refl (a b : Nat) (w : World) : Agree a b w w := fun _ _ _ => rfl
theorem Agree.of {B : Nat} {w w' : World} (h : Below B w w') : Agree 0 B w w' := fun k _ hk => h.block k hk
theorem Agree.drewN (a b : Nat) (w : World) (n : Nat) : Agree a b w (w.drewN n) := fun _ _ _ => rfl

theorem Own.keep {a b : Nat} {w w' : World} (h : Agree a b w w') {g n : Nat} {f : Nat → ByteArray} (h1 : a ≤ g) (h2 : g < b) (o : Own w g n f) : Own w' g n f :=
  ⟨fun t ht => (h.cell h1 h2).trans (o.cell t ht), fun t ht => (h.frozen h1 h2).trans (o.free t ht)⟩
theorem PIn.keep {a b : Nat} {w w' : World} (h : Agree a b w w') {v : Value} {p : Pth} (o : PIn w a b v p) : PIn w' a b v p := by
  cases p with
  | none => exact o
  | some p =>
    obtain ⟨g, hv, h1, h2, hn, ho⟩ := o
    exact ⟨g, hv, h1, h2, hn, ho.keep h h1 h2⟩
theorem TIn.keep {a b : Nat} {w w' : World} (h : Agree a b w w') {v : Value} {p : Tgt} (o : TIn w a b v p) : TIn w' a b v p := by
  cases p with
  | none => exact o
  | some p =>
    obtain ⟨g, hv, h1, h2, ho⟩ := o
    exact ⟨g, hv, h1, h2, ho.keep h h1 h2⟩
theorem PIn.mono {a b a' b' : Nat} {w : World} (h1 : a' ≤ a) (h2 : b ≤ b') {v : Value} {p : Pth} (o : PIn w a b v p) : PIn w a' b' v p := by
  cases p with
  | none => exact o
  | some p =>
    obtain ⟨g, hv, k1, k2, hn, ho⟩ := o
    exact ⟨g, hv, by omega, by omega, hn, ho⟩
theorem TIn.mono {a b a' b' : Nat} {w : World} (h1 : a' ≤ a) (h2 : b ≤ b') {v : Value} {p : Tgt} (o : TIn w a b v p) : TIn w a' b' v p := by
  cases p with
  | none => exact o
  | some p =>
    obtain ⟨g, hv, k1, k2, ho⟩ := o
    exact ⟨g, hv, by omega, by omega, ho⟩
theorem RIn.keep {a b : Nat} {w w' : World} (h : Agree a b w w') {vP vT : Value} {P : Pth} {T : Tgt} (o : RIn w a b vP vT P T) : RIn w' a b vP vT P T := by
  obtain ⟨c, h1, h2, hp, ht⟩ := o
  exact ⟨c, h1, h2, hp.keep (h.mono (Nat.le_refl _) h2), ht.keep (h.mono h1 (Nat.le_refl _))⟩
theorem RIn.mono {a b a' b' : Nat} {w : World} (h1 : a' ≤ a) (h2 : b ≤ b') {vP vT : Value} {P : Pth} {T : Tgt} (o : RIn w a b vP vT P T) : RIn w a' b' vP vT P T := by
  obtain ⟨c, k1, k2, hp, ht⟩ := o
  exact ⟨c, by omega, by omega, hp.mono h1 (Nat.le_refl _), ht.mono (Nat.le_refl _) h2⟩
theorem RIn.le {a b : Nat} {w : World} {vP vT : Value} {P : Pth} {T : Tgt} (o : RIn w a b vP vT P T) : a ≤ b := by
  obtain ⟨c, k1, k2, -⟩ := o
  omega

/-- The bounds go up. -/
theorem bounds_le {m : Nat → Nat} {n : Nat} (h : ∀ k, k < n → m k ≤ m (k + 1)) : ∀ {i j : Nat}, i ≤ j → j ≤ n → m i ≤ m j := by
  intro i j hij
  induction hij with
  | refl => exact fun _ => Nat.le_refl _
  | step _ ih => exact fun hj => Nat.le_trans (ih (by omega)) (h _ (by omega))

theorem IIn.keep {a b : Nat} {w w' : World} (h : Agree a b w w') {v : Value} {p : Igs} (o : IIn w a b v p) : IIn w' a b v p := by
  cases p with
  | none => exact o
  | some p =>
    obtain ⟨n, P, T⟩ := p
    obtain ⟨g, m, vP, vT, hv, h1, hn, hm0, hmn, hk⟩ := o
    have hle : ∀ {i j : Nat}, i ≤ j → j ≤ n → m i ≤ m j := bounds_le (fun k hk' => (hk k hk').rule.le)
    have h0n := hle (Nat.zero_le n) (Nat.le_refl n)
    refine ⟨g, m, vP, vT, hv, h1, hn, hm0, hmn, fun k hkn => ?_⟩
    obtain ⟨c0, c1, f0, f1, hr⟩ := hk k hkn
    have hk1 := hle (show 0 ≤ k by omega) (by omega)
    have hk2 := hle (show k + 1 ≤ n by omega) (Nat.le_refl n)
    exact ⟨(h.cell h1 (by omega)).trans c0, (h.cell h1 (by omega)).trans c1, (h.frozen h1 (by omega)).trans f0, (h.frozen h1 (by omega)).trans f1, hr.keep (h.mono (by omega) (by omega))⟩
theorem DIn.keep {a b g : Nat} {w w' : World} (h : Agree a b w w') {md : ByteArray} {ig : Igs} (o : DIn w a b g md ig) : DIn w' a b g md ig := by
  obtain ⟨lo, c0, f0, f1, ⟨v, hv, hi⟩, hb⟩ := o
  exact ⟨lo, (h.cell lo hb).trans c0, (h.frozen lo hb).trans f0, (h.frozen lo hb).trans f1, ⟨v, (h.cell lo hb).trans hv, hi.keep (h.mono (by omega) (Nat.le_refl _))⟩, hb⟩
theorem IIn.mono {a b b' : Nat} {w : World} (h2 : b ≤ b') {v : Value} {p : Igs} (o : IIn w a b v p) : IIn w a b' v p := by
  cases p with
  | none => exact o
  | some p =>
    obtain ⟨n, P, T⟩ := p
    obtain ⟨g, m, vP, vT, hv, h1, hn, hm0, hmn, hk⟩ := o
    exact ⟨g, m, vP, vT, hv, h1, hn, hm0, by omega, hk⟩
theorem DIn.mono {a b a' b' g : Nat} {w : World} (h1 : a' ≤ a) (h2 : b ≤ b') {md : ByteArray} {ig : Igs} (o : DIn w a b g md ig) : DIn w a' b' g md ig := by
  obtain ⟨lo, c0, f0, f1, ⟨v, hv, hi⟩, hb⟩ := o
  exact ⟨by omega, c0, f0, f1, ⟨v, hv, hi.mono h2⟩, by omega⟩

theorem ZT.form {w : World} {v : Value} {T : Tgt} (z : ZT w v T) : ∃ y, v = .pointer y := by
  cases T with
  | none => exact ⟨_, z⟩
  | some f => obtain ⟨b, o, hv, -⟩ := z; exact ⟨_, hv⟩
theorem TIn.form {w : World} {a b : Nat} {v : Value} {T : Tgt} (z : TIn w a b v T) : ∃ y, v = .pointer y := by
  cases T with
  | none => exact ⟨_, z⟩
  | some f => obtain ⟨g, hv, -⟩ := z; exact ⟨_, hv⟩
theorem ZP.form {w : World} {v : Value} {p : Pth} (z : ZP w v p) : ∃ a n c, v = .slice a n c := by
  cases p with
  | none => exact ⟨_, _, _, z⟩
  | some p => obtain ⟨a, c, hv, -⟩ := z; exact ⟨_, _, _, hv⟩
theorem PIn.form {w : World} {a b : Nat} {v : Value} {p : Pth} (z : PIn w a b v p) : ∃ a n c, v = .slice a n c := by
  cases p with
  | none => exact ⟨_, _, _, z⟩
  | some p => obtain ⟨g, hv, -⟩ := z; exact ⟨_, _, _, hv⟩
theorem IIn.form {w : World} {a b : Nat} {v : Value} {p : Igs} (z : IIn w a b v p) : ∃ a n c, v = .slice a n c := by
  cases p with
  | none => exact ⟨_, _, _, z⟩
  | some p => obtain ⟨g, m, vP, vT, hv, -⟩ := z; exact ⟨_, _, _, hv⟩
theorem ZI.form {w : World} {v : Value} {p : Igs} (z : ZI w v p) : ∃ a n c, v = .slice a n c := by
  cases p with
  | none => exact ⟨_, _, _, z⟩
  | some p => obtain ⟨a, c, hv, -⟩ := z; exact ⟨_, _, _, hv⟩

/-! ### Worlds near a world -/
structure Near (B : Nat) (W : World) where
  w : World
  h : Below B W w
theorem Near.cellAt {B : Nat} {W : World} {b o : Nat} {v : Value} (hb : b < B) (h : W.cell? ⟨b, o, none⟩ = some v) : ∀ u : Near B W, u.w.cell? ⟨b, o, none⟩ = some v :=
  fun u => (u.h.cell (p := ⟨b, o, none⟩) hb).trans h
theorem Near.openAt {B : Nat} {W : World} {b o : Nat} (hb : b < B) (h : W.frozen? ⟨b, o, none⟩ = false) : ∀ u : Near B W, u.w.frozen? ⟨b, o, none⟩ = false :=
  fun u => (u.h.frozen (p := ⟨b, o, none⟩) hb).trans h
theorem near_call {B : Nat} {W : World} {f : FuncId} {args : Array Value} {v : Value} (hB : B ≤ W.heap.size) (u : Near B W)
    (h : Calls Trym.prog f args u.w fun e w' => e = .returned v ∧ Below u.w.heap.size u.w w') : Calls Trym.prog f args u.w fun e w'' => e = .returned v ∧ ∃ u' : Near B W, w'' = u'.w :=
  h.mono fun _ w' ⟨he, hb⟩ => ⟨he, ⟨w', u.h.trans (hb.mono (Nat.le_trans hB u.h.size))⟩, rfl⟩
theorem wp_region_near {P : Program} {id : Nat} {Q : Exit → Act → World → Prop} {a : Act} {W : World} {l : List Oper} (B : Nat) (hm : P.follows .mixedOrders = true) (hB : Region.lexB .any l.toArray = true)
    (h : wpQuiet P l.toArray (fun w' => ∃ u : Near B W, w' = u.w) (fun a' => ∀ w', (∃ u : Near B W, w' = u.w) → Q .normal a' w') l a) : (Code.region id l.toArray true).wp P Q a W :=
  wp_region_quiet (C := fun w' => ∃ u : Near B W, w' = u.w) hm hB ⟨⟨W.drew, (Below.refl _ _).drew⟩, rfl⟩ (by simpa using h)
/-- The same, the class being 'W after some draws', and a last operation that waits for all. -/
theorem wp_region_drew_last {P : Program} {id : Nat} {Q : Exit → Act → World → Prop} {a : Act} {W : World} {k : List Oper} {y : Oper} (hk : k.getLast? = some y) (hm : P.follows .mixedOrders = true) (hgs : k.dropLast.all (Last.guardB k.dropLast.length) = true)
    (hB : Region.lexB .any (k.dropLast ++ [Last.idle y]).toArray = true) (hb : Last.backB k.toArray = true) (hwt : Last.waitsB k.toArray k.dropLast.length = true)
    (h : wpQuiet P k.toArray (fun w' => ∃ n, w' = W.drewN n) (fun a' => ∀ w', (∃ n, w' = W.drewN n) → wpList P k.toArray Q [y] a' w') k.dropLast a) : (Code.region id k.toArray true).wp P Q a W :=
  Last.wp_region_last_lit (fun w' => ∃ n, w' = W.drewN n) hk hm hgs hB hb hwt ⟨1, rfl⟩ h
end Go.Proofs.Qxb6608981aMods
