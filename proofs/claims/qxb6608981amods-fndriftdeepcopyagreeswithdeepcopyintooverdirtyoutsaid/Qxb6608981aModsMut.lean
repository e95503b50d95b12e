/-
  CONTRACT of zzMutate: it writes only inside the drift handed to it, and into new memory.
-/
import Derived.Test.Qxb6608981aModsSame
namespace Go.Proofs.Qxb6608981aMods
open Go.RowKit

/-- Only blocks lo to hi may have changed. -/
structure Just (lo hi : Nat) (w w' : World) : Prop where
  os : w'.os = w.os
  tape : w'.tape = w.tape
  output : w'.output = w.output
  size : w'.heap.size = w.heap.size
  block : ∀ i, i < lo ∨ hi ≤ i → w'.heap[i]? = w.heap[i]?
theorem Just.refl (lo hi : Nat) (w : World) : Just lo hi w w := ⟨rfl, rfl, rfl, rfl, fun _ _ => rfl⟩
theorem Just.set {lo hi g : Nat} {w w' : World} (h : Just lo hi w w') (h1 : lo ≤ g) (h2 : g < hi) {o : Nat} (v : Value) : Just lo hi w (w'.setCell ⟨g, o, none⟩ v) :=
  have k := (Below.refl 0 w').setCell (p := ⟨g, o, none⟩) (Nat.zero_le _) v
  ⟨k.os.trans h.os, k.tape.trans h.tape, k.output.trans h.output, by rw [set_size]; exact h.size, fun i hi => (Below.heap_setCell w' _ v i (show i ≠ g by omega)).trans (h.block i hi)⟩
theorem Just.cell {lo hi : Nat} {w w' : World} (h : Just lo hi w w') {b o : Nat} (hb : b < lo ∨ hi ≤ b) : w'.cell? ⟨b, o, none⟩ = w.cell? ⟨b, o, none⟩ := World.cell?_of_block (w := w) (h.block b hb)
theorem Just.frozen {lo hi : Nat} {w w' : World} (h : Just lo hi w w') {b o : Nat} (hb : b < lo ∨ hi ≤ b) : w'.frozen? ⟨b, o, none⟩ = w.frozen? ⟨b, o, none⟩ := World.frozen?_of_block (w := w) (h.block b hb)

/-- Blocks lo to hi, rule k of the row in block g, and new blocks: nothing else may have changed. -/
structure Chg (lo hi g k : Nat) (w w' : World) : Prop where
  os : w'.os = w.os
  tape : w'.tape = w.tape
  output : w'.output = w.output
  size : w.heap.size ≤ w'.heap.size
  block : ∀ i, i < w.heap.size → i < lo ∨ hi ≤ i → i ≠ g → w'.heap[i]? = w.heap[i]?
  cell : ∀ p, p ≠ k * 2 → p ≠ k * 2 + 1 → w'.cell? ⟨g, p, none⟩ = w.cell? ⟨g, p, none⟩
  fz : ∀ p, w'.frozen? ⟨g, p, none⟩ = w.frozen? ⟨g, p, none⟩
theorem Chg.refl (lo hi g k : Nat) (w : World) : Chg lo hi g k w w := ⟨rfl, rfl, rfl, Nat.le_refl _, fun _ _ _ _ => rfl, fun _ _ _ => rfl, fun _ => rfl⟩
theorem Chg.trans {lo hi g k : Nat} {w w1 w2 : World} (h : Chg lo hi g k w w1) (j : Chg lo hi g k w1 w2) : Chg lo hi g k w w2 :=
  ⟨j.os.trans h.os, j.tape.trans h.tape, j.output.trans h.output, Nat.le_trans h.size j.size, fun i h1 h2 h3 => (j.block i (Nat.lt_of_lt_of_le h1 h.size) h2 h3).trans (h.block i h1 h2 h3), fun p h1 h2 => (j.cell p h1 h2).trans (h.cell p h1 h2), fun p => (j.fz p).trans (h.fz p)⟩
theorem Chg.just {lo hi g k lo' hi' : Nat} {w w' : World} (h : Just lo' hi' w w') (h1 : lo ≤ lo') (h2 : hi' ≤ hi) (h3 : g < lo' ∨ hi' ≤ g) : Chg lo hi g k w w' :=
  ⟨h.os, h.tape, h.output, by rw [h.size]; exact Nat.le_refl _, fun i _ h5 _ => h.block i (by omega), fun p _ _ => h.cell h3, fun p => h.frozen h3⟩
theorem Chg.inn {lo hi g k q o : Nat} {w w0 : World} (h : Chg lo hi g k w0 w) (v : Value) (h1 : lo ≤ q) (h2 : q < hi) (h3 : q ≠ g) : Chg lo hi g k w0 (w.setCell ⟨q, o, none⟩ v) :=
  h.trans (Chg.just (lo' := q) (hi' := q + 1) ((Just.refl _ _ _).set (Nat.le_refl _) (Nat.lt_succ_self _) v) h1 h2 (by omega))
theorem Chg.row {lo hi g k r : Nat} {w w0 : World} (h : Chg lo hi g k w0 w) (v : Value) (hr : r = k * 2 ∨ r = k * 2 + 1) : Chg lo hi g k w0 (w.setCell ⟨g, r, none⟩ v) := by
  refine h.trans ?_
  have j := (Below.refl 0 w).setCell (p := ⟨g, r, none⟩) (Nat.zero_le _) v
  exact ⟨j.os, j.tape, j.output, by rw [set_size]; exact Nat.le_refl _, fun i _ _ h5 => Below.heap_setCell w _ v i (show i ≠ g from h5), fun p h1 h2 => set_far (by omega), fun p => World.frozen?_setCell _ _ _ _⟩
theorem Chg.alloc {lo hi g k : Nat} {w w0 : World} (h : Chg lo hi g k w0 w) (hg : g < w0.heap.size) (o : Obj) : Chg lo hi g k w0 (w.alloc o) := by
  refine h.trans ?_
  have hg' := Nat.lt_of_lt_of_le hg h.size
  have j := (Below.refl w.heap.size w).alloc (Nat.le_refl _) o
  exact ⟨j.os, j.tape, j.output, j.size, fun i h1 _ _ => j.block i h1, fun p _ _ => below_cell j hg', fun p => below_frozen j hg'⟩

/-- What zzMutate may do. -/
structure Mut (a b : Nat) (w w' : World) : Prop where
  bel : Below a w w'
  ag : Agree b w.heap.size w w'

/-- The state in zzMutate's loop. -/
structure MSt (w wr : World) (a b g gx n : Nat) (m : Nat → Nat) (vP vT : Nat → Value) (P : Nat → Pth) (T : Nat → Tgt) (k : Nat) : Prop where
  mt : Mut a b w wr
  x1 : wr.cell? ⟨gx, 1, none⟩ = some (.slice (some ⟨g, 0, none⟩) n n)
  q1 : wr.frozen? ⟨gx, 1, none⟩ = false
  rules : ∀ t, k ≤ t → t < n → RAt wr g t (m t) (m (t + 1)) (vP t) (vT t) (P t) (T t)

theorem MSt.step {w wr w' : World} {a b g gx n : Nat} {m : Nat → Nat} {vP vT : Nat → Value} {P : Nat → Pth} {T : Nat → Tgt} {k : Nat} (h : MSt w wr a b g gx n m vP vT P T k) (hkn : k < n) (hm : ∀ {i j : Nat}, i ≤ j → j ≤ n → m i ≤ m j) (hag : a ≤ gx) (hgx : gx < g) (hm0 : m 0 = g + 1) (hmn : m n ≤ b) (hb : b ≤ w.heap.size)
    (c : Chg (m k) (m (k + 1)) g k wr w') : MSt w w' a b g gx n m vP vT P T (k + 1) := by
  obtain ⟨⟨bel, ag⟩, x1, q1, rules⟩ := h
  have h1 := hm (show 0 ≤ k by omega) (by omega)
  have h2 := hm (show k + 1 ≤ n by omega) (Nat.le_refl n)
  have h3 := hm (show k ≤ k + 1 by omega) (by omega)
  have hs := bel.size
  have hx : w'.heap[gx]? = wr.heap[gx]? := c.block gx (by omega) (by omega) (by omega)
  refine ⟨⟨bel.trans ⟨c.os, c.tape, c.output, c.size, fun i hi => c.block i (by omega) (by omega) (by omega)⟩, ag.trans fun i h4 h5 => c.block i (by omega) (by omega) (by omega)⟩, (World.cell?_of_block (w := wr) (a := ⟨gx, 1, none⟩) hx).trans x1, (World.frozen?_of_block (w := wr) (a := ⟨gx, 1, none⟩) hx).trans q1, fun t h4 h5 => ?_⟩
  obtain ⟨c0, c1, f0, f1, hr⟩ := rules t (by omega) h5
  have h6 := hm h4 (by omega)
  have h7 := hm (show t + 1 ≤ n by omega) (Nat.le_refl n)
  exact ⟨(c.cell _ (by omega) (by omega)).trans c0, (c.cell _ (by omega) (by omega)).trans c1, (c.fz _).trans f0, (c.fz _).trans f1, hr.keep fun i h8 h9 => c.block i (by omega) (by omega) (by omega)⟩

theorem mut_set {a b g o : Nat} {w w' : World} (h : Mut a b w w') (h1 : a ≤ g) (h2 : g < b) (v : Value) : Mut a b w (w'.setCell ⟨g, o, none⟩ v) :=
  ⟨h.bel.setCell (p := ⟨g, o, none⟩) h1 v, h.ag.trans (Agree.set (.inl h2))⟩
theorem mut_alloc {a b : Nat} {w w' : World} (h : Mut a b w w') (ha : a ≤ w.heap.size) (o : Obj) : Mut a b w (w'.alloc o) :=
  ⟨h.bel.alloc (Nat.le_trans ha h.bel.size) o, h.ag.trans fun _ _ h2 => Below.heap_alloc _ _ _ (Nat.lt_of_lt_of_le h2 h.bel.size)⟩

theorem mutate_nil (w : World) : Calls Trym.prog 17 #[.pointer none] w fun e w' => e = .returned (.tuple #[]) ∧ w = w' := by
  go_enter Trym.func17, Trym.ntmps17
  go_wp2
  exact bodyPost_ret (results_none rfl _ _ _) rfl ⟨rfl, rfl⟩

set_option maxHeartbeats 1600000 in
theorem mutate_none (gx : Nat) (md : ByteArray) (w : World) (hgx : gx < w.heap.size) (hm : md.size ≤ 1048576) (c0 : w.cell? ⟨gx, 0, none⟩ = some (.string md)) (c1 : w.cell? ⟨gx, 1, none⟩ = some (.slice none 0 0)) (f0 : w.frozen? ⟨gx, 0, none⟩ = false) (f1 : w.frozen? ⟨gx, 1, none⟩ = false) :
    Calls Trym.prog 17 #[.pointer (some ⟨gx, 0, none⟩)] w fun e w' => e = .returned (.tuple #[]) ∧ Mut gx (gx + 1) w w' := by
  have k40 := neq40
  go_enter Trym.func17, Trym.ntmps17
  go_wp2_with fail
  go_loopw [2] (fun i wr => i = .int .i64 0 ∧ Hid (Mut gx (gx + 1) w wr) ∧ wr.cell? ⟨gx, 1, none⟩ = some (.slice none 0 0) ∧ wr.frozen? ⟨gx, 1, none⟩ = false) (fun _ _ => 0)
  case atStart => exact ⟨rfl, mut_set ⟨Below.refl _ _, Agree.refl _ _ _⟩ (Nat.le_refl _) (Nat.lt_succ_self _) _, by rw [set_far (by omega)]; exact c1, by rw [World.frozen?_setCell]; exact f1⟩
  case round =>
  obtain ⟨rfl, HM, x1, q1⟩ := hrel
  clear c0 c1 f0 f1
  have hgl := Nat.lt_of_lt_of_le hgx HM.out.bel.size
  go_wp2_with fail
  go_end0
  exact ⟨rfl, mut_alloc (mut_set HM.out (Nat.le_refl _) (Nat.lt_succ_self _) _) (by omega) _⟩

theorem MSt.init {w : World} {a b g gx n : Nat} {m : Nat → Nat} {vP vT : Nat → Value} {P : Nat → Pth} {T : Nat → Tgt} {v : Value} (hag : a ≤ gx) (hgx : gx < g) (hgb : g < b) (hm : ∀ {i j : Nat}, i ≤ j → j ≤ n → m i ≤ m j) (hm0 : m 0 = g + 1)
    (c1 : w.cell? ⟨gx, 1, none⟩ = some (.slice (some ⟨g, 0, none⟩) n n)) (f1 : w.frozen? ⟨gx, 1, none⟩ = false) (hk : ∀ k, k < n → RAt w g k (m k) (m (k + 1)) (vP k) (vT k) (P k) (T k)) :
    MSt w (w.setCell ⟨gx, 0, none⟩ v) a b g gx n m vP vT P T 0 := by
  refine ⟨mut_set ⟨Below.refl _ _, Agree.refl _ _ _⟩ hag (by omega) _, by rw [set_far (by omega)]; exact c1, by rw [World.frozen?_setCell]; exact f1, fun t _ ht => ?_⟩
  obtain ⟨c0, c1, f0, f1, hr⟩ := hk t ht
  have h1 := hm (show 0 ≤ t by omega) (by omega)
  exact ⟨by rw [set_other (by omega)]; exact c0, by rw [set_other (by omega)]; exact c1, by rw [World.frozen?_setCell]; exact f0, by rw [World.frozen?_setCell]; exact f1, hr.keep (Agree.set (by omega))⟩

/-- A row of strings of its own, nil or not. -/
theorem own_paths {w : World} {a c : Nat} {v : Value} {P : Pth} (x : PIn w a c v P) (hB : PthB P) :
    ∃ (ax : Option Addr) (n cx : Nat) (f : Nat → ByteArray) (gp : Nat), v = .slice ax n cx ∧ n ≤ 1048576 ∧ (0 < n → ax = some ⟨gp, 0, none⟩ ∧ a ≤ gp ∧ gp < c) ∧ (∀ j, j < n → w.cell? ⟨gp, j, none⟩ = some (.string (f j)) ∧ w.frozen? ⟨gp, j, none⟩ = false ∧ (f j).size ≤ 1048576) := by
  cases P with
  | none =>
    obtain rfl : v = .slice none 0 0 := x
    exact ⟨none, 0, 0, fun _ => ByteArray.empty, 0, rfl, Nat.zero_le _, fun h => absurd h (Nat.lt_irrefl _), fun _ h => absurd h (Nat.not_lt_zero _)⟩
  | some p =>
    obtain ⟨n, f⟩ := p
    obtain ⟨g, rfl, h1, h2, hn, ho⟩ := x
    exact ⟨_, n, n, f, g, rfl, hB.1, fun _ => ⟨rfl, h1, h2⟩, fun j hj => ⟨ho.cell j hj, ho.free j hj, hB.2 j hj⟩⟩

set_option maxHeartbeats 20000000 in
set_option maxRecDepth 8000 in
theorem mutate_some (a b g gx n : Nat) (md : ByteArray) (P : Nat → Pth) (T : Nat → Tgt) (m : Nat → Nat) (vP vT : Nat → Value) (w : World) (hB : IgsB (some (n, P, T))) (hmd : md.size ≤ 1048576) (hag : a ≤ gx) (hgx : gx < g) (hgb : g < b) (hb : b ≤ w.heap.size) (hm : ∀ {i j : Nat}, i ≤ j → j ≤ n → m i ≤ m j) (hm0 : m 0 = g + 1) (hmn : m n ≤ b)
    (c0 : w.cell? ⟨gx, 0, none⟩ = some (.string md)) (f0 : w.frozen? ⟨gx, 0, none⟩ = false) (c1 : w.cell? ⟨gx, 1, none⟩ = some (.slice (some ⟨g, 0, none⟩) n n)) (f1 : w.frozen? ⟨gx, 1, none⟩ = false) (hk : ∀ k, k < n → RAt w g k (m k) (m (k + 1)) (vP k) (vT k) (P k) (T k)) :
    Calls Trym.prog 17 #[.pointer (some ⟨gx, 0, none⟩)] w fun e w' => e = .returned (.tuple #[]) ∧ Mut a b w w' := by
  obtain ⟨hn, hBk⟩ := hB
  have HST : Hid (∀ v, MSt w (w.setCell ⟨gx, 0, none⟩ v) a b g gx n m vP vT P T 0) := fun v => MSt.init hag hgx hgb hm hm0 c1 f1 hk
  clear hk c1 f1
  go_enter Trym.func17, Trym.ntmps17
  go_wp2_with fail
  go_loopw [2] (fun i wr => ∃ k : Nat, k ≤ n ∧ i = .int .i64 k ∧ Hid (MSt w wr a b g gx n m vP vT P T k)) (fun i _ => n - (intOf i).toNat)
  case atStart => exact ⟨0, Nat.zero_le _, rfl, HST.out _⟩
  case round =>
  clear HST c0 f0
  obtain ⟨k, hkn, rfl, HR⟩ := hrel
  have x1 := HR.out.x1
  have q1 := HR.out.q1
  by_cases hin : k < n
  case neg =>
    obtain rfl : k = n := by omega
    have k40 := neq40
    have HM := hide HR.out.mt
    clear HR hm hBk
    go_wp2_with fail
    go_end0
    exact ⟨rfl, mut_set HM.out hag (by omega) _⟩
  have HRk := hide (HR.out.rules k (Nat.le_refl _) hin)
  have r0 := HRk.out.c0
  have r1 := HRk.out.c1
  obtain ⟨c, hc1, hc2, xP, xT⟩ := HRk.out.rule
  have hbk := hBk k hin
  obtain ⟨ax, np, cx, f, gp, hvP, hnp, hgp, hcells⟩ := own_paths xP hbk.1
  obtain ⟨yx, hyx⟩ := xT.form
  rw [hvP] at r0
  rw [hyx] at r1 xT
  have HT := hide xT
  have HTB := hide hbk.2
  have HC := hide hcells
  have HG := hide hgp
  clear xP xT hvP hyx hcells hgp hbk hBk
  go_wp2_with fail
  rename World => W
  go_loopw [4] (fun i wr' => ∃ j : Nat, j ≤ np ∧ i = .int .i64 j ∧ Hid (Just (m k) c W wr' ∧ ∀ t, j ≤ t → t < np → wr'.cell? ⟨gp, t, none⟩ = some (.string (f t)) ∧ wr'.frozen? ⟨gp, t, none⟩ = false)) (fun i _ => np - (intOf i).toNat)
  case atStart => exact ⟨0, Nat.zero_le _, rfl, Just.refl _ _ _, fun t _ ht => ⟨(HC.out t ht).1, (HC.out t ht).2.1⟩⟩
  case round =>
  obtain ⟨j, hj, rfl, HJ⟩ := hrel
  by_cases hjn : j < np
  case pos =>
    obtain ⟨rfl, hg1, hg2⟩ := HG.out (by omega)
    obtain ⟨s0, s1⟩ := HJ.out.2 j (Nat.le_refl _) hjn
    have s2 := (HC.out j hjn).2.2
    have HN : Hid (∀ v, Just (m k) c W (wr.setCell ⟨gp, j, none⟩ v) ∧ ∀ t, j + 1 ≤ t → t < np → (wr.setCell ⟨gp, j, none⟩ v).cell? ⟨gp, t, none⟩ = some (.string (f t)) ∧ (wr.setCell ⟨gp, j, none⟩ v).frozen? ⟨gp, t, none⟩ = false) :=
      fun v => ⟨HJ.out.1.set hg1 hg2 v, fun t h1 h2 => ⟨by rw [set_far (by omega)]; exact (HJ.out.2 t (by omega) h2).1, by rw [World.frozen?_setCell]; exact (HJ.out.2 t (by omega) h2).2⟩⟩
    clear HJ HC HT HTB HRk HR x1 q1 r0 r1 HG
    generalize f j = sj at s0 s2
    go_wp2_with fail
    go_roundw
    case rel => exact ⟨j + 1, by omega, by go_num, HN.out _⟩
    case measure => simp [intOf]; omega
  obtain rfl : j = np := by omega
  have hk0 := hm (show 0 ≤ k by omega) (by omega)
  have hJ := HJ.out.1
  have X1 := (hJ.cell (.inl (by omega))).trans x1
  have Q1 := (hJ.frozen (.inl (by omega))).trans q1
  have R0 := (hJ.cell (.inl (by omega))).trans r0
  have R1 := (hJ.cell (.inl (by omega))).trans r1
  have F0 := (hJ.frozen (.inl (by omega))).trans HRk.out.f0
  have F1 := (hJ.frozen (.inl (by omega))).trans HRk.out.f1
  have hT := HT.out.keep (w' := wr) (fun i h1 h2 => hJ.block i (.inr h1))
  have HCH : Hid (Chg (m k) (m (k + 1)) g k W wr) := hide (Chg.just hJ (Nat.le_refl _) hc2 (.inl (by omega)))
  have hWs := HR.out.mt.bel.size
  have hgW : g < W.heap.size := by omega
  have hgl : g < wr.heap.size := by have := hJ.size; omega
  have hxl : gx < wr.heap.size := by omega
  have hgxg : ¬ gx = g := by omega
  have hggx : ¬ g = gx := by omega
  have HSTEP : Hid (∀ w', Chg (m k) (m (k + 1)) g k W w' → MSt w w' a b g gx n m vP vT P T (k + 1)) := fun w' h => HR.out.step hin hm hag hgx hm0 hmn hb h
  have k46 := neq46
  clear HC HT HRk HR x1 q1 r0 r1 HG hm HJ hJ
  cases hTk : T k with
  | none =>
    rw [hTk] at hT
    obtain rfl : yx = none := by cases hT; rfl
    clear hT HTB hTk
    cases ax with
    | none =>
      go_wp2_with fail
      go_roundw
      case rel =>
        refine ⟨k + 1, by omega, by go_num, HSTEP.out _ ?_⟩
        refine Chg.alloc ?_ hgW _
        refine Chg.alloc ?_ hgW _
        refine Chg.row ?_ _ (.inl rfl)
        refine Chg.row ?_ _ (.inr rfl)
        exact HCH.out
      case measure => simp [intOf]; omega
    | some aa =>
      go_wp2_with fail
      go_roundw
      case rel =>
        refine ⟨k + 1, by omega, by go_num, HSTEP.out _ ?_⟩
        refine Chg.alloc ?_ hgW _
        refine Chg.row ?_ _ (.inl rfl)
        refine Chg.row ?_ _ (.inr rfl)
        exact HCH.out
      case measure => simp [intOf]; omega
  | some tf =>
    rw [hTk] at hT
    obtain ⟨gt, hv, h1, h2, ho⟩ := hT
    cases hv
    have hTb := HTB.out
    rw [hTk] at hTb
    have t0 := ho.cell 0 (by omega)
    have t1 := ho.cell 1 (by omega)
    have t2 := ho.cell 2 (by omega)
    have t3 := ho.cell 3 (by omega)
    have t4 := ho.cell 4 (by omega)
    have t5 := ho.cell 5 (by omega)
    have t6 := ho.cell 6 (by omega)
    have e0 := ho.free 0 (by omega)
    have e1 := ho.free 1 (by omega)
    have e2 := ho.free 2 (by omega)
    have e3 := ho.free 3 (by omega)
    have e4 := ho.free 4 (by omega)
    have e5 := ho.free 5 (by omega)
    have e6 := ho.free 6 (by omega)
    have l0 : (tf 0).size ≤ 1048576 := hTb 0 (by omega)
    have l1 : (tf 1).size ≤ 1048576 := hTb 1 (by omega)
    have l2 : (tf 2).size ≤ 1048576 := hTb 2 (by omega)
    have l3 : (tf 3).size ≤ 1048576 := hTb 3 (by omega)
    have l4 : (tf 4).size ≤ 1048576 := hTb 4 (by omega)
    have l5 : (tf 5).size ≤ 1048576 := hTb 5 (by omega)
    have l6 : (tf 6).size ≤ 1048576 := hTb 6 (by omega)
    have h4 : m k ≤ gt := by omega
    have h5 : ¬ gt = g := by omega
    have h6 : ¬ g = gt := by omega
    have h7 : ¬ gt = gx := by omega
    have h8 : ¬ gx = gt := by omega
    clear ho HTB hTk hTb
    generalize tf 0 = s0 at *
    generalize tf 1 = s1 at *
    generalize tf 2 = s2 at *
    generalize tf 3 = s3 at *
    generalize tf 4 = s4 at *
    generalize tf 5 = s5 at *
    generalize tf 6 = s6 at *
    cases ax with
    | none =>
      go_wp2_with fail
      go_roundw
      case rel =>
        refine ⟨k + 1, by omega, by go_num, HSTEP.out _ ?_⟩
        refine Chg.alloc ?_ hgW _
        refine Chg.row ?_ _ (.inl rfl)
        refine Chg.row ?_ _ (.inr rfl)
        refine Chg.inn ?_ _ h4 h2 h5
        refine Chg.inn ?_ _ h4 h2 h5
        refine Chg.inn ?_ _ h4 h2 h5
        refine Chg.inn ?_ _ h4 h2 h5
        refine Chg.inn ?_ _ h4 h2 h5
        refine Chg.inn ?_ _ h4 h2 h5
        refine Chg.inn ?_ _ h4 h2 h5
        exact HCH.out
      case measure => simp [intOf]; omega
    | some aa =>
      go_wp2_with fail
      go_roundw
      case rel =>
        refine ⟨k + 1, by omega, by go_num, HSTEP.out _ ?_⟩
        refine Chg.row ?_ _ (.inl rfl)
        refine Chg.row ?_ _ (.inr rfl)
        refine Chg.inn ?_ _ h4 h2 h5
        refine Chg.inn ?_ _ h4 h2 h5
        refine Chg.inn ?_ _ h4 h2 h5
        refine Chg.inn ?_ _ h4 h2 h5
        refine Chg.inn ?_ _ h4 h2 h5
        refine Chg.inn ?_ _ h4 h2 h5
        refine Chg.inn ?_ _ h4 h2 h5
        exact HCH.out
      case measure => simp [intOf]; omega

theorem Mut.mono {a b a' b' : Nat} {w w' : World} (h : Mut a b w w') (h1 : a' ≤ a) (h2 : b ≤ b') : Mut a' b' w w' := ⟨h.bel.mono h1, h.ag.mono h2 (Nat.le_refl _)⟩
/-- ZZMUTATE. -/
theorem mutate_calls (gx a b : Nat) (md : ByteArray) (ig : Igs) (w : World) (hB : IgsB ig) (hm : md.size ≤ 1048576) (hx : DIn w a b gx md ig) (hb : b ≤ w.heap.size) :
    Calls Trym.prog 17 #[.pointer (some ⟨gx, 0, none⟩)] w fun e w' => e = .returned (.tuple #[]) ∧ Mut a b w w' := by
  obtain ⟨lo, c0, f0, f1, ⟨v, hv, hi⟩, hgb⟩ := hx
  cases ig with
  | none =>
    obtain rfl : v = .slice none 0 0 := hi
    exact (mutate_none gx md w (by omega) hm c0 hv f0 f1).mono fun e w' ⟨he, h⟩ => ⟨he, h.mono lo hgb⟩
  | some p =>
    obtain ⟨n, P, T⟩ := p
    obtain ⟨gr, m, vP, vT, rfl, h1, hn, hm0, hmn, hk⟩ := hi
    have hle : ∀ {i j : Nat}, i ≤ j → j ≤ n → m i ≤ m j := bounds_le (fun t ht => (hk t ht).rule.le)
    have h0n := hle (Nat.zero_le n) (Nat.le_refl n)
    exact mutate_some a b gr gx n md P T m vP vT w hB hm lo (by omega) (by omega) hb hle hm0 hmn c0 f0 hv f1 hk
end Go.Proofs.Qxb6608981aMods
