/-
  CONTRACT of zzRuleToAPI.
-/
import Derived.Test.Qxb6608981aModsSel
namespace Go.Proofs.Qxb6608981aMods
open Go.RowKit

theorem Trym.info9 : (Trym.prog.info? 9).map (fun i => (i.zero, i.size, i.bytes)) = some (some (.string { data := #[] }), 1, 16) := by kernel_rfl
theorem Trym.info56 : (Trym.prog.info? 56).map (fun i => (i.zero, i.size, i.bytes)) = some (some (.agg #[.slice none 0 0, .pointer none]), 2, 32) := by kernel_rfl
theorem neq46 (w : World) (a : Option Addr) (n c n' c' : Nat) : (binOp .neq 46 (.slice a n c) (.slice none n' c')).run Trym.prog w = .ok (.bool (!a.isNone)) w := run_neq_slice_nil_any w _ _ a n c n' c' Trym.underlying46

/-- The state in zzRuleToAPI's loop: B: the first block of its own. -/
structure RSt (w wr : World) (B g n : Nat) (f : Nat → ByteArray) (j : Nat) (vP vT : Value) : Prop where
  bel : Below B w wr
  gl : g < wr.heap.size
  p0 : wr.cell? ⟨B, 0, none⟩ = some vP
  p1 : wr.cell? ⟨B, 1, none⟩ = some vT
  r0 : wr.cell? ⟨B + 1, 0, none⟩ = some (.slice none 0 0)
  r1 : wr.cell? ⟨B + 1, 1, none⟩ = some (.pointer none)
  q0 : wr.frozen? ⟨B + 1, 0, none⟩ = false
  q1 : wr.frozen? ⟨B + 1, 1, none⟩ = false
  x0 : wr.cell? ⟨B + 1 + 1, 0, none⟩ = some (.slice (some ⟨g, 0, none⟩) n n)
  x1 : wr.cell? ⟨B + 1 + 1, 1, none⟩ = some (.pointer none)
  y0 : wr.frozen? ⟨B + 1 + 1, 0, none⟩ = false
  y1 : wr.frozen? ⟨B + 1 + 1, 1, none⟩ = false
  done : ∀ t, t < j → wr.cell? ⟨g, t, none⟩ = some (.string (f t))
  any : ∀ t, t < n → ∃ v, wr.cell? ⟨g, t, none⟩ = some v
  free : ∀ t, t < n → wr.frozen? ⟨g, t, none⟩ = false

theorem set_other {w : World} {g o b p : Nat} {v : Value} (h : b ≠ g) : (w.setCell ⟨g, o, none⟩ v).cell? ⟨b, p, none⟩ = w.cell? ⟨b, p, none⟩ :=
  World.cell?_setCell_other _ _ _ _ (fun e => h (congrArg Addr.block e).symm)
theorem set_far {w : World} {g o p : Nat} {v : Value} (h : p ≠ o) : (w.setCell ⟨g, o, none⟩ v).cell? ⟨g, p, none⟩ = w.cell? ⟨g, p, none⟩ :=
  World.cell?_setCell_other _ _ _ _ (fun e => h (congrArg Addr.off e).symm)
theorem set_same {w : World} {g o : Nat} {v u : Value} (h : w.cell? ⟨g, o, none⟩ = some u) : (w.setCell ⟨g, o, none⟩ v).cell? ⟨g, o, none⟩ = some v :=
  World.cell?_setCell_same w _ v h
theorem set_size {w : World} {a : Addr} {v : Value} : (w.setCell a v).heap.size = w.heap.size := by simp [World.setCell]

theorem RSt.step {w wr : World} {B g n : Nat} {f : Nat → ByteArray} {j : Nat} {vP vT : Value} (h : RSt w wr B g n f j vP vT) (hj : j < n) (hg : B + 1 + 1 < g) (k : Nat) :
    RSt w ((wr.drewN k).setCell ⟨g, j, none⟩ (.string (f j))) B g n f (j + 1) vP vT := by
  obtain ⟨bel, gl, p0, p1, r0, r1, q0, q1, x0, x1, y0, y1, done, hsome, free⟩ := h
  obtain ⟨u, hu⟩ := hsome j hj
  have bel' : Below B w (wr.drewN k) := bel.trans ⟨rfl, rfl, rfl, Nat.le_refl _, fun _ _ => rfl⟩
  refine ⟨bel'.setCell (p := ⟨g, j, none⟩) (show B ≤ g by omega) _, by rw [set_size]; exact gl, ?_, ?_, ?_, ?_, ?_, ?_, ?_, ?_, ?_, ?_, ?_, ?_, ?_⟩
  · rw [set_other (by omega)]; exact p0
  · rw [set_other (by omega)]; exact p1
  · rw [set_other (by omega)]; exact r0
  · rw [set_other (by omega)]; exact r1
  · rw [World.frozen?_setCell]; exact q0
  · rw [World.frozen?_setCell]; exact q1
  · rw [set_other (by omega)]; exact x0
  · rw [set_other (by omega)]; exact x1
  · rw [World.frozen?_setCell]; exact y0
  · rw [World.frozen?_setCell]; exact y1
  · intro t ht
    by_cases e : t = j
    · subst e
      exact set_same (u := u) hu
    · rw [set_far e]
      exact done t (by omega)
  · intro t ht
    by_cases e : t = j
    · subst e
      exact ⟨_, set_same (u := u) hu⟩
    · rw [set_far e]
      exact hsome t ht
  · intro t ht
    rw [World.frozen?_setCell]
    exact free t ht

theorem bcell {W w1 : World} (hb : Below W.heap.size W w1) : (∀ b o, b < W.heap.size → w1.cell? ⟨b, o, none⟩ = W.cell? ⟨b, o, none⟩) ∧ (∀ b o, b < W.heap.size → w1.frozen? ⟨b, o, none⟩ = W.frozen? ⟨b, o, none⟩) :=
  ⟨fun b o h => hb.cell (p := ⟨b, o, none⟩) h, fun b o h => hb.frozen (p := ⟨b, o, none⟩) h⟩
theorem below_of_grown {w w' : World} (h : w.grownBy w' none) : Below w.heap.size w w' := ⟨h.os, h.tape, h.output, h.size, fun k hk => h.block k hk (by simp)⟩

theorem RSt.init {w w1 : World} {n : Nat} {f : Nat → ByteArray} {vP vT : Value} {xs : List Value} (hb1 : Below (((w.alloc (.cells #[vP, vT] 49)).alloc (.cells #[.slice none 0 0, .pointer none] 56)).alloc (.cells #[.slice none 0 0, .pointer none] 56)).heap.size (((w.alloc (.cells #[vP, vT] 49)).alloc (.cells #[.slice none 0 0, .pointer none] 56)).alloc (.cells #[.slice none 0 0, .pointer none] 56)) w1)
    (hown : w1.ownsRow w.heap.size 9 1 (.slice (some ⟨w.heap.size + 1 + 1 + 1, 0, none⟩) n n) n xs) (hx : xs.length = n) :
    RSt w (w1.setCell ⟨w.heap.size + 1 + 1, 0, none⟩ (.slice (some ⟨w.heap.size + 1 + 1 + 1, 0, none⟩) n n)) w.heap.size (w.heap.size + 1 + 1 + 1) n f 0 vP vT := by
  obtain ⟨hc, hf⟩ := bcell hb1
  have gl := (hown.lt _ rfl).2
  have bel : Below w.heap.size w w1 := ((((Below.refl _ _).alloc (Nat.le_refl _) _).alloc (by simp) _).alloc (by simp; omega) _).trans (hb1.mono (by simp; omega))
  refine ⟨bel.setCell (p := ⟨w.heap.size + 1 + 1, 0, none⟩) (show w.heap.size ≤ w.heap.size + 1 + 1 by omega) _, by rw [set_size]; exact gl, ?_, ?_, ?_, ?_, ?_, ?_, ?_, ?_, ?_, ?_, ?_, ?_, ?_⟩
  · rw [set_other (by omega), hc _ _ (by simp <;> omega)]; simp [go_sem]
  · rw [set_other (by omega), hc _ _ (by simp <;> omega)]; simp [go_sem]
  · rw [set_other (by omega), hc _ _ (by simp <;> omega)]; simp [go_sem]
  · rw [set_other (by omega), hc _ _ (by simp <;> omega)]; simp [go_sem]
  · rw [World.frozen?_setCell, hf _ _ (by simp <;> omega)]; simp [go_sem]
  · rw [World.frozen?_setCell, hf _ _ (by simp <;> omega)]; simp [go_sem]
  · exact set_same (u := .slice none 0 0) (by rw [hc _ _ (by simp <;> omega)]; simp [go_sem])
  · rw [set_far (by omega), hc _ _ (by simp <;> omega)]; simp [go_sem]
  · rw [World.frozen?_setCell, hf _ _ (by simp <;> omega)]; simp [go_sem]
  · rw [World.frozen?_setCell, hf _ _ (by simp <;> omega)]; simp [go_sem]
  · exact fun t ht => absurd ht (Nat.not_lt_zero _)
  · intro t ht
    rw [set_other (by omega), hown.cellAt t (by omega)]
    exact ⟨xs[t], List.getElem?_eq_getElem (by omega)⟩
  · intro t _
    rw [World.frozen?_setCell]
    exact hown.frozenAt t

theorem Agree.set {a b g o : Nat} {v : Value} {w : World} (h : g < a ∨ b ≤ g) : Agree a b w (w.setCell ⟨g, o, none⟩ v) := fun k _ _ => Below.heap_setCell w _ v k (show k ≠ g by omega)

/-- What stands at the end. -/
theorem rule_fin {w wr w2 : World} {n : Nat} {f : Nat → ByteArray} {vP vT : Value} {y : Option Addr} {T : Tgt} (h : RSt w wr w.heap.size (w.heap.size + 1 + 1 + 1) n f n vP vT) (hT : TIn w2 wr.heap.size w2.heap.size (.pointer y) T) (hb : Below wr.heap.size wr w2) (hn : n ≤ 1048576) :
    RIn (((w2.setCell ⟨w.heap.size + 1 + 1, 1, none⟩ (.pointer y)).setCell ⟨w.heap.size + 1, 0, none⟩ (.slice (some ⟨w.heap.size + 1 + 1 + 1, 0, none⟩) n n)).setCell ⟨w.heap.size + 1, 1, none⟩ (.pointer y)) w.heap.size
      (((w2.setCell ⟨w.heap.size + 1 + 1, 1, none⟩ (.pointer y)).setCell ⟨w.heap.size + 1, 0, none⟩ (.slice (some ⟨w.heap.size + 1 + 1 + 1, 0, none⟩) n n)).setCell ⟨w.heap.size + 1, 1, none⟩ (.pointer y)).heap.size
      (.slice (some ⟨w.heap.size + 1 + 1 + 1, 0, none⟩) n n) (.pointer y) (some (n, f)) T ∧
    Below w.heap.size w (((w2.setCell ⟨w.heap.size + 1 + 1, 1, none⟩ (.pointer y)).setCell ⟨w.heap.size + 1, 0, none⟩ (.slice (some ⟨w.heap.size + 1 + 1 + 1, 0, none⟩) n n)).setCell ⟨w.heap.size + 1, 1, none⟩ (.pointer y)) := by
  have gl := h.gl
  have hs := hb.size
  have ag1 : Agree (w.heap.size + 1 + 1 + 1) w2.heap.size w2 (((w2.setCell ⟨w.heap.size + 1 + 1, 1, none⟩ (.pointer y)).setCell ⟨w.heap.size + 1, 0, none⟩ (.slice (some ⟨w.heap.size + 1 + 1 + 1, 0, none⟩) n n)).setCell ⟨w.heap.size + 1, 1, none⟩ (.pointer y)) :=
    ((Agree.set (by omega)).trans (Agree.set (by omega))).trans (Agree.set (by omega))
  have b2 : Below w.heap.size w w2 := h.bel.trans (hb.mono (by omega))
  refine ⟨⟨wr.heap.size, by omega, by rw [set_size, set_size, set_size]; exact hs, ?_, ?_⟩, ?_⟩
  · refine ⟨_, rfl, by omega, gl, by unfold maxLen; omega, ?_⟩
    have o1 : Own wr (w.heap.size + 1 + 1 + 1) n f := ⟨h.done, h.free⟩
    exact (o1.keep (Agree.of hb) (Nat.zero_le _) gl).keep ag1 (Nat.le_refl _) (by omega)
  · rw [set_size, set_size, set_size]
    exact hT.keep (ag1.mono (by omega) (Nat.le_refl _))
  · exact ((b2.setCell (p := ⟨w.heap.size + 1 + 1, 1, none⟩) (show w.heap.size ≤ w.heap.size + 1 + 1 by omega) _).setCell (p := ⟨w.heap.size + 1, 0, none⟩) (show w.heap.size ≤ w.heap.size + 1 by omega) _).setCell (p := ⟨w.heap.size + 1, 1, none⟩) (show w.heap.size ≤ w.heap.size + 1 by omega) _

set_option maxHeartbeats 1600000 in
/-- Paths not nil. -/
theorem rule_some (a : Addr) (n c : Nat) (f : Nat → ByteArray) (y : Option Addr) (T : Tgt) (w : World) (hn : n ≤ 1048576) (hP : ZP w (.slice (some a) n c) (some (n, f))) (hT : ZT w (.pointer y) T) :
    Calls Trym.prog 22 #[.agg #[.slice (some a) n c, .pointer y]] w fun e w' => ∃ vP' y', e = .returned (.agg #[vP', .pointer y']) ∧ RIn w' w.heap.size w'.heap.size vP' (.pointer y') (some (n, f)) T ∧ Below w.heap.size w w' := by
  obtain ⟨i0, hi, hz0, hz1, hz2⟩ := info_parts Trym.info9
  have k46 := neq46
  go_enter Trym.func22, Trym.ntmps22
  go_wp2_with (at_make; refine wpList_make_full _ rfl (.tmp 10) (.tmp 10) 46 rfl w.heap.size 9 i0 (.string { data := #[] }) 1 Trym.underlying46 hi hz0 hz1 _ _ _ _ n rfl rfl rfl rfl ?b2 ?b3 ?b4 ?_)
  case b2 => rw [hz2]; omega
  case b3 => unfold maxLen; omega
  case b4 => simp; omega
  intro w1 hown hgrow
  have hb1 := below_of_grown hgrow
  have HST : Hid (RSt w (w1.setCell ⟨w.heap.size + 1 + 1, 0, none⟩ (.slice (some ⟨w.heap.size + 1 + 1 + 1, 0, none⟩) n n)) w.heap.size (w.heap.size + 1 + 1 + 1) n f 0 (.slice (some a) n c) (.pointer y)) := by
    refine RSt.init hb1 (by simpa using hown) ?_
    simp [size_madeCells]
  obtain ⟨hc, hf⟩ := bcell hb1
  have hs1 := hb1.size
  simp only [World.size_alloc] at hs1
  go_wp2_with fail
  clear hc hf hb1 hown hgrow hs1 k46
  generalize w1.setCell ⟨w.heap.size + 1 + 1, 0, none⟩ (.slice (some ⟨w.heap.size + 1 + 1 + 1, 0, none⟩) n n) = W1 at *
  go_loopw [4] (fun i wr => ∃ j : Nat, j ≤ n ∧ i = .int .i64 j ∧ Hid (RSt w wr w.heap.size (w.heap.size + 1 + 1 + 1) n f j (.slice (some a) n c) (.pointer y))) (fun i _ => n - (intOf i).toNat)
  case atStart => exact ⟨0, Nat.zero_le _, rfl, HST⟩
  case round =>
  clear HST
  obtain ⟨j, hj, rfl, HR⟩ := hrel
  have p0 := HR.out.p0
  by_cases hin : j < n
  · obtain ⟨b, o, rfl, hb, hcz⟩ : ∃ b o, a = ⟨b, o, none⟩ ∧ b < w.heap.size ∧ ∀ t, t < n → w.cell? ⟨b, o + t, none⟩ = some (.string (f t)) ∧ (f t).size ≤ maxLen := by
      obtain ⟨a', c', hv, _, hq⟩ := hP
      obtain ⟨b, o, ha, hb, hk⟩ := hq (by omega)
      cases hv
      exact ⟨b, o, ha, hb, hk⟩
    have gs := (HR.out.bel.cell (p := ⟨b, o + j, none⟩) hb).trans (hcz j hin).1
    have x0 := HR.out.x0
    obtain ⟨v0, hv0⟩ := HR.out.any j hin
    have fr := HR.out.free j hin
    have HS : Hid (∀ k, RSt w ((wr.drewN k).setCell ⟨w.heap.size + 1 + 1 + 1, j, none⟩ (.string (f j))) w.heap.size (w.heap.size + 1 + 1 + 1) n f (j + 1) (.slice (some ⟨b, o, none⟩) n c) (.pointer y)) := fun k => HR.out.step hin (by omega) k
    clear HR hcz hP hT
    generalize f j = sj at *
    go_wp2_with fail
    refine wp_region_drew_last rfl (by kernel_rfl) (by kernel_rfl) (by kernel_rfl) (by kernel_rfl) (by kernel_rfl) ?_
    dsimp only [List.dropLast, List.getLast]
    repeat (go_big_quiet_step (fail))
    refine wpQuiet_nil ?_
    rintro _ ⟨nq, rfl⟩
    go_wp2
    go_roundw
    case rel => exact ⟨j + 1, by omega, by go_num, HS.out _⟩
    case measure => simp [intOf]; omega
  obtain rfl : j = n := by omega
  have p1 := HR.out.p1
  have x0 := HR.out.x0
  have x1 := HR.out.x1
  have y1 := HR.out.y1
  have r0 := HR.out.r0
  have r1 := HR.out.r1
  have q0 := HR.out.q0
  have q1 := HR.out.q1
  have gl := HR.out.gl
  go_wp2_with fail
  refine (selToAPI_calls (.pointer y) T wr (hT.later HR.out.bel)).mono ?_
  rintro e w2 ⟨v', rfl, hTI, hb2⟩
  obtain ⟨y', rfl⟩ := hTI.form
  have HFin := rule_fin HR.out hTI hb2 hn
  have X0 := (below_cell hb2 (show w.heap.size + 1 + 1 < wr.heap.size by omega)).trans x0
  have X1 := (below_cell hb2 (show w.heap.size + 1 + 1 < wr.heap.size by omega)).trans x1
  have Y1 := (below_frozen hb2 (show w.heap.size + 1 + 1 < wr.heap.size by omega)).trans y1
  have R0 := (below_cell hb2 (show w.heap.size + 1 < wr.heap.size by omega)).trans r0
  have R1 := (below_cell hb2 (show w.heap.size + 1 < wr.heap.size by omega)).trans r1
  have Q0 := (below_frozen hb2 (show w.heap.size + 1 < wr.heap.size by omega)).trans q0
  have Q1 := (below_frozen hb2 (show w.heap.size + 1 < wr.heap.size by omega)).trans q1
  clear hP hT hTI hb2 HR x0 x1 y1 r0 r1 q0 q1 p0 p1 gl
  go_wp2_with fail
  exact bodyPost_ret (v := .agg #[.slice (some ⟨w.heap.size + 1 + 1 + 1, 0, none⟩) j j, .pointer y']) (by simp [results, Trym.results22, go_sem, R0, R1]) rfl ⟨_, _, rfl, HFin.1, HFin.2⟩

theorem rule_fin0 {w w2 : World} {y : Option Addr} {T : Tgt} (hT : TIn w2 (w.heap.size + 1 + 1 + 1) w2.heap.size (.pointer y) T) (hs : w.heap.size + 1 + 1 + 1 ≤ w2.heap.size) (hb : Below w.heap.size w w2) :
    RIn (((w2.setCell ⟨w.heap.size + 1 + 1, 1, none⟩ (.pointer y)).setCell ⟨w.heap.size + 1, 0, none⟩ (.slice none 0 0)).setCell ⟨w.heap.size + 1, 1, none⟩ (.pointer y)) w.heap.size
      (((w2.setCell ⟨w.heap.size + 1 + 1, 1, none⟩ (.pointer y)).setCell ⟨w.heap.size + 1, 0, none⟩ (.slice none 0 0)).setCell ⟨w.heap.size + 1, 1, none⟩ (.pointer y)).heap.size
      (.slice none 0 0) (.pointer y) none T ∧
    Below w.heap.size w (((w2.setCell ⟨w.heap.size + 1 + 1, 1, none⟩ (.pointer y)).setCell ⟨w.heap.size + 1, 0, none⟩ (.slice none 0 0)).setCell ⟨w.heap.size + 1, 1, none⟩ (.pointer y)) := by
  have ag1 : Agree (w.heap.size + 1 + 1 + 1) w2.heap.size w2 (((w2.setCell ⟨w.heap.size + 1 + 1, 1, none⟩ (.pointer y)).setCell ⟨w.heap.size + 1, 0, none⟩ (.slice none 0 0)).setCell ⟨w.heap.size + 1, 1, none⟩ (.pointer y)) :=
    ((Agree.set (by omega)).trans (Agree.set (by omega))).trans (Agree.set (by omega))
  refine ⟨⟨w.heap.size + 1 + 1 + 1, by omega, by rw [set_size, set_size, set_size]; exact hs, rfl, ?_⟩, ?_⟩
  · rw [set_size, set_size, set_size]
    exact hT.keep ag1
  · exact ((hb.setCell (p := ⟨w.heap.size + 1 + 1, 1, none⟩) (show w.heap.size ≤ w.heap.size + 1 + 1 by omega) _).setCell (p := ⟨w.heap.size + 1, 0, none⟩) (show w.heap.size ≤ w.heap.size + 1 by omega) _).setCell (p := ⟨w.heap.size + 1, 1, none⟩) (show w.heap.size ≤ w.heap.size + 1 by omega) _

set_option maxHeartbeats 800000 in
/-- Paths nil. -/
theorem rule_none (y : Option Addr) (T : Tgt) (w : World) (hT : ZT w (.pointer y) T) :
    Calls Trym.prog 22 #[.agg #[.slice none 0 0, .pointer y]] w fun e w' => ∃ vP' y', e = .returned (.agg #[vP', .pointer y']) ∧ RIn w' w.heap.size w'.heap.size vP' (.pointer y') none T ∧ Below w.heap.size w w' := by
  have k46 := neq46
  go_enter Trym.func22, Trym.ntmps22
  go_wp2_with fail
  refine (selToAPI_calls (.pointer y) T _ (hT.later (((Below.refl _ _).alloc (Nat.le_refl _) _).alloc (by simp) _ |>.alloc (by simp; omega) _))).mono ?_
  rintro e w2 ⟨v', rfl, hTI, hb2⟩
  obtain ⟨y', rfl⟩ := hTI.form
  obtain ⟨hc2, hf2⟩ := bcell hb2
  have hs2 := hb2.size
  have HFin := rule_fin0 (w := w) (by simpa using hTI) (hs := by simpa using hs2) (hb := (((Below.refl _ _).alloc (Nat.le_refl _) _).alloc (by simp) _ |>.alloc (by simp; omega) _).trans (hb2.mono (by simp; omega)))
  clear hT k46 hTI
  go_wp2_with fail
  exact bodyPost_ret (v := .agg #[.slice none 0 0, .pointer y']) (by simp [results, Trym.results22, go_sem, hc2]) rfl ⟨_, _, rfl, HFin.1, HFin.2⟩

theorem ruleToAPI_calls (vP vT : Value) (P : Pth) (T : Tgt) (w : World) (hB : PthB P) (hP : ZP w vP P) (hT : ZT w vT T) :
    Calls Trym.prog 22 #[.agg #[vP, vT]] w fun e w' => ∃ vP' y', e = .returned (.agg #[vP', .pointer y']) ∧ RIn w' w.heap.size w'.heap.size vP' (.pointer y') P T ∧ Below w.heap.size w w' := by
  obtain ⟨y, rfl⟩ := hT.form
  cases P with
  | none =>
    obtain rfl : vP = .slice none 0 0 := hP
    exact rule_none y T w hT
  | some p =>
    obtain ⟨n, f⟩ := p
    have hP' := hP
    obtain ⟨a, c, rfl, -⟩ := hP'
    exact rule_some a n c f y T w hB.1 hP hT
end Go.Proofs.Qxb6608981aMods
