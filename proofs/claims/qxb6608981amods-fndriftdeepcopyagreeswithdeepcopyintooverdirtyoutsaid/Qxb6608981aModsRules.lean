/-
  A ROW OF RULES THAT IS FILLED ONE BY ONE; CONTRACT of zzToAPI.
-/
import Derived.Test.Qxb6608981aModsRule
namespace Go.Proofs.Qxb6608981aMods
open Go.RowKit

theorem hide {p : Prop} (h : p) : Hid p := h
theorem RIn.formP {w : World} {a b : Nat} {vP vT : Value} {P : Pth} {T : Tgt} (h : RIn w a b vP vT P T) : ∃ a n c, vP = .slice a n c := by
  obtain ⟨c, _, _, hp, _⟩ := h
  exact hp.form

/-- The first k rules of the row in block g stand. -/
def Upto (w : World) (g k : Nat) (P : Nat → Pth) (T : Nat → Tgt) : Prop :=
  ∃ (m : Nat → Nat) (vP vT : Nat → Value), m 0 = g + 1 ∧ m k ≤ w.heap.size ∧ ∀ t, t < k → RAt w g t (m t) (m (t + 1)) (vP t) (vT t) (P t) (T t)
/-- The row itself: its cells are there, open to writes. -/
structure Row (w : World) (g n : Nat) : Prop where
  gl : g < w.heap.size
  any : ∀ t, t < n * 2 → ∃ v, w.cell? ⟨g, t, none⟩ = some v
  free : ∀ t, w.frozen? ⟨g, t, none⟩ = false

theorem Upto.zero {w : World} {g : Nat} {P : Nat → Pth} {T : Nat → Tgt} (h : g < w.heap.size) : Upto w g 0 P T :=
  ⟨fun _ => g + 1, fun _ => .slice none 0 0, fun _ => .pointer none, rfl, h, fun _ ht => absurd ht (Nat.not_lt_zero _)⟩

theorem Upto.step {w w5 : World} {g k : Nat} {P : Nat → Pth} {T : Nat → Tgt} (h : Upto w g k P T) (ag : Agree (g + 1) w.heap.size w w5)
    (hc : ∀ p, p ≠ k * 2 → p ≠ k * 2 + 1 → w5.cell? ⟨g, p, none⟩ = w.cell? ⟨g, p, none⟩) (hf : ∀ p, w5.frozen? ⟨g, p, none⟩ = w.frozen? ⟨g, p, none⟩)
    {vP vT : Value} (new : RAt w5 g k w.heap.size w5.heap.size vP vT (P k) (T k)) : Upto w5 g (k + 1) P T := by
  obtain ⟨m, vP', vT', hm0, hmk, hk⟩ := h
  have hle : ∀ {i j : Nat}, i ≤ j → j ≤ k → m i ≤ m j := bounds_le (fun t ht => (hk t ht).rule.le)
  refine ⟨fun t => if t ≤ k then m t else w5.heap.size, fun t => if t < k then vP' t else vP, fun t => if t < k then vT' t else vT, by simp [hm0], (by show (if k + 1 ≤ k then _ else _) ≤ _; rw [if_neg (by omega)]; exact Nat.le_refl _), fun t ht => ?_⟩
  by_cases e : t = k
  · subst e
    simp only [Nat.lt_irrefl, if_false, Nat.le_refl, if_true, show ¬ (t + 1 ≤ t) by omega]
    obtain ⟨c0, c1, f0, f1, hr⟩ := new
    exact ⟨c0, c1, f0, f1, hr.mono hmk (Nat.le_refl _)⟩
  · have h1 : t < k := by omega
    have h2 : t ≤ k := by omega
    have h3 : t + 1 ≤ k := by omega
    simp only [h1, h2, h3, if_true]
    obtain ⟨c0, c1, f0, f1, hr⟩ := hk t h1
    have hk1 := hle (show 0 ≤ t by omega) (by omega)
    have hk2 := hle h3 (Nat.le_refl k)
    exact ⟨(hc _ (by omega) (by omega)).trans c0, (hc _ (by omega) (by omega)).trans c1, (hf _).trans f0, (hf _).trans f1, hr.keep (ag.mono (by omega) (by omega))⟩

theorem Upto.done {w : World} {g n a : Nat} {P : Nat → Pth} {T : Nat → Tgt} (h : Upto w g n P T) (ha : a ≤ g) (hn : n ≤ maxLen) : IIn w a w.heap.size (.slice (some ⟨g, 0, none⟩) n n) (some (n, P, T)) := by
  obtain ⟨m, vP, vT, hm0, hmk, hk⟩ := h
  exact ⟨g, m, vP, vT, rfl, ha, hn, hm0, hmk, hk⟩
theorem Upto.keep {w w' : World} {g k : Nat} {P : Nat → Pth} {T : Nat → Tgt} (h : Upto w g k P T) (hs : w.heap.size ≤ w'.heap.size) (ag : Agree g w.heap.size w w') (hg : g < w.heap.size) : Upto w' g k P T := by
  obtain ⟨m, vP, vT, hm0, hmk, hk⟩ := h
  have hle : ∀ {i j : Nat}, i ≤ j → j ≤ k → m i ≤ m j := bounds_le (fun t ht => (hk t ht).rule.le)
  refine ⟨m, vP, vT, hm0, by omega, fun t ht => ?_⟩
  obtain ⟨c0, c1, f0, f1, hr⟩ := hk t ht
  have hk1 := hle (show 0 ≤ t by omega) (by omega)
  have hk2 := hle (show t + 1 ≤ k by omega) (Nat.le_refl k)
  exact ⟨(ag.cell (Nat.le_refl _) hg).trans c0, (ag.cell (Nat.le_refl _) hg).trans c1, (ag.frozen (Nat.le_refl _) hg).trans f0, (ag.frozen (Nat.le_refl _) hg).trans f1, hr.keep (ag.mono (by omega) (by omega))⟩

theorem Row.made {w : World} {base g n : Nat} {xs : List Value} (h : w.ownsRow base 56 2 (.slice (some ⟨g, 0, none⟩) n n) n xs) : Row w g n :=
  ⟨(h.lt _ rfl).2, fun t ht => ⟨xs[t]'(by have := h.1; omega), by rw [h.cellAt t ht]; exact List.getElem?_eq_getElem _⟩, fun t => h.frozenAt t⟩
theorem Row.keep {w w' : World} {g n : Nat} (h : Row w g n) (hs : w.heap.size ≤ w'.heap.size) (ag : Agree g (g + 1) w w') : Row w' g n :=
  ⟨Nat.lt_of_lt_of_le h.gl hs, fun t ht => by rw [ag.cell (Nat.le_refl _) (Nat.lt_succ_self _)]; exact h.any t ht, fun t => (ag.frozen (Nat.le_refl _) (Nat.lt_succ_self _)).trans (h.free t)⟩

theorem neq43 (w : World) (a : Option Addr) (n c n' c' : Nat) : (binOp .neq 43 (.slice a n c) (.slice none n' c')).run Trym.prog w = .ok (.bool (!a.isNone)) w := run_neq_slice_nil_any w _ _ a n c n' c' Trym.underlying43

/-- The state in zzToAPI's loop. -/
structure TSt (w wr : World) (g n : Nat) (md : ByteArray) (P : Nat → Pth) (T : Nat → Tgt) (k : Nat) : Prop where
  bel : Below w.heap.size w wr
  x0 : wr.cell? ⟨w.heap.size, 0, none⟩ = some (.string md)
  x1 : wr.cell? ⟨w.heap.size, 1, none⟩ = some (.slice (some ⟨g, 0, none⟩) n n)
  f0 : wr.frozen? ⟨w.heap.size, 0, none⟩ = false
  f1 : wr.frozen? ⟨w.heap.size, 1, none⟩ = false
  row : Row wr g n
  upto : Upto wr g k P T

theorem TSt.step {w wr w4 : World} {g n : Nat} {md : ByteArray} {P : Nat → Pth} {T : Nat → Tgt} {k : Nat} (h : TSt w wr g n md P T k) (hg : w.heap.size < g) (hk : k < n) (hb : Below wr.heap.size wr w4) {vP : Value} {y : Option Addr}
    (hr : RIn w4 wr.heap.size w4.heap.size vP (.pointer y) (P k) (T k)) : TSt w ((w4.setCell ⟨g, k * 2, none⟩ vP).setCell ⟨g, k * 2 + 1, none⟩ (.pointer y)) g n md P T (k + 1) := by
  obtain ⟨bel, x0, x1, f0, f1, row, upto⟩ := h
  have gl := row.gl
  have hs := hb.size
  have hws := bel.size
  obtain ⟨u0, hu0⟩ := row.any (k * 2) (by omega)
  obtain ⟨u1, hu1⟩ := row.any (k * 2 + 1) (by omega)
  have hu0' := (below_cell hb gl).trans hu0
  have hu1' := (below_cell hb gl).trans hu1
  have cell : ∀ b o, b ≠ g → b < wr.heap.size → ((w4.setCell ⟨g, k * 2, none⟩ vP).setCell ⟨g, k * 2 + 1, none⟩ (.pointer y)).cell? ⟨b, o, none⟩ = wr.cell? ⟨b, o, none⟩ := fun b o hb1 hb2 => by
    rw [set_other hb1, set_other hb1]; exact below_cell hb hb2
  have sz : ((w4.setCell ⟨g, k * 2, none⟩ vP).setCell ⟨g, k * 2 + 1, none⟩ (.pointer y)).heap.size = w4.heap.size := by rw [set_size, set_size]
  have far : ∀ p, p ≠ k * 2 → p ≠ k * 2 + 1 → ((w4.setCell ⟨g, k * 2, none⟩ vP).setCell ⟨g, k * 2 + 1, none⟩ (.pointer y)).cell? ⟨g, p, none⟩ = wr.cell? ⟨g, p, none⟩ := fun p h1 h2 => by
    rw [set_far h2, set_far h1]; exact below_cell hb gl
  have ag : Agree (g + 1) wr.heap.size wr ((w4.setCell ⟨g, k * 2, none⟩ vP).setCell ⟨g, k * 2 + 1, none⟩ (.pointer y)) :=
    ((Agree.of hb).mono (Nat.zero_le _) (Nat.le_refl _)).trans ((Agree.set (by omega)).trans (Agree.set (by omega)))
  have c0 : ((w4.setCell ⟨g, k * 2, none⟩ vP).setCell ⟨g, k * 2 + 1, none⟩ (.pointer y)).cell? ⟨g, k * 2, none⟩ = some vP := by rw [set_far (by omega)]; exact set_same hu0'
  have c1 : ((w4.setCell ⟨g, k * 2, none⟩ vP).setCell ⟨g, k * 2 + 1, none⟩ (.pointer y)).cell? ⟨g, k * 2 + 1, none⟩ = some (.pointer y) := set_same (u := u1) (by rw [set_far (by omega)]; exact hu1')
  have fz : ∀ b o, b < wr.heap.size → ((w4.setCell ⟨g, k * 2, none⟩ vP).setCell ⟨g, k * 2 + 1, none⟩ (.pointer y)).frozen? ⟨b, o, none⟩ = wr.frozen? ⟨b, o, none⟩ := fun b o h1 => by
    rw [World.frozen?_setCell, World.frozen?_setCell]; exact below_frozen hb h1
  refine ⟨((bel.trans (hb.mono hws)).setCell (p := ⟨g, k * 2, none⟩) (show w.heap.size ≤ g by omega) _).setCell (p := ⟨g, k * 2 + 1, none⟩) (show w.heap.size ≤ g by omega) _, (cell _ _ (by omega) (by omega)).trans x0, (cell _ _ (by omega) (by omega)).trans x1,
    (fz _ _ (by omega)).trans f0, (fz _ _ (by omega)).trans f1, ⟨by rw [sz]; omega, fun t ht => ?_, fun t => (fz _ _ gl).trans (row.free t)⟩, ?_⟩
  · by_cases e0 : t = k * 2
    · rw [e0]; exact ⟨_, c0⟩
    · by_cases e1 : t = k * 2 + 1
      · rw [e1]; exact ⟨_, c1⟩
      · rw [far t e0 e1]; exact row.any t ht
  · refine upto.step ag far (fun p => fz _ _ gl) ⟨c0, c1, (fz _ _ gl).trans (row.free _), (fz _ _ gl).trans (row.free _), ?_⟩
    rw [sz]
    exact hr.keep ((Agree.set (by omega)).trans (Agree.set (by omega)))

theorem TSt.init {w w1 : World} {n : Nat} {md : ByteArray} {P : Nat → Pth} {T : Nat → Tgt} {xs : List Value} (hb1 : Below (w.alloc (.cells #[.string md, .slice none 0 0] 42)).heap.size (w.alloc (.cells #[.string md, .slice none 0 0] 42)) w1)
    (hown : w1.ownsRow w.heap.size 56 2 (.slice (some ⟨w.heap.size + 1, 0, none⟩) n n) n xs) :
    TSt w (w1.setCell ⟨w.heap.size, 1, none⟩ (.slice (some ⟨w.heap.size + 1, 0, none⟩) n n)) (w.heap.size + 1) n md P T 0 := by
  obtain ⟨hc, hf⟩ := bcell hb1
  have hrow := Row.made hown
  have bel : Below w.heap.size w w1 := ((Below.refl _ _).alloc (Nat.le_refl _) _).trans (hb1.mono (by simp))
  refine ⟨bel.setCell (p := ⟨w.heap.size, 1, none⟩) (Nat.le_refl _) _, ?_, ?_, ?_, ?_, hrow.keep (by rw [set_size]; exact Nat.le_refl _) (Agree.set (by omega)), Upto.zero (by rw [set_size]; exact hrow.gl)⟩
  · rw [set_far (by omega), hc _ _ (by simp)]; simp
  · exact set_same (u := .slice none 0 0) (by rw [hc _ _ (by simp)]; simp)
  · rw [World.frozen?_setCell, hf _ _ (by simp)]; simp [go_sem]
  · rw [World.frozen?_setCell, hf _ _ (by simp)]; simp [go_sem]
theorem TSt.fin {w wr : World} {n : Nat} {md : ByteArray} {P : Nat → Pth} {T : Nat → Tgt} (h : TSt w wr (w.heap.size + 1) n md P T n) (hn : n ≤ maxLen) : DIn wr w.heap.size wr.heap.size w.heap.size md (some (n, P, T)) :=
  ⟨Nat.le_refl _, h.x0, h.f0, h.f1, ⟨_, h.x1, h.upto.done (Nat.le_refl _) hn⟩, by have := h.row.gl; omega⟩

set_option maxHeartbeats 1600000 in
theorem toAPI_some (b o : Nat) (md : ByteArray) (a : Addr) (n c : Nat) (P : Nat → Pth) (T : Nat → Tgt) (w : World) (hb : b < w.heap.size) (hB : IgsB (some (n, P, T))) (c0 : w.cell? ⟨b, o, none⟩ = some (.string md)) (c1 : w.cell? ⟨b, o + 1, none⟩ = some (.slice (some a) n c)) (hI : ZI w (.slice (some a) n c) (some (n, P, T))) :
    Calls Trym.prog 14 #[.pointer (some ⟨b, o, none⟩)] w fun e w' => e = .returned (.pointer (some ⟨w.heap.size, 0, none⟩)) ∧ DIn w' w.heap.size w'.heap.size w.heap.size md (some (n, P, T)) ∧ Below w.heap.size w w' := by
  obtain ⟨i0, hi, hz0, hz1, hz2⟩ := info_parts Trym.info56
  have k43 := neq43
  obtain ⟨hn, hBk⟩ := hB
  go_enter Trym.func14, Trym.ntmps14
  go_wp2_with (at_make; refine wpList_make_full _ rfl (.tmp 23) (.tmp 23) 40 rfl w.heap.size 56 i0 (.agg #[.slice none 0 0, .pointer none]) 2 Trym.underlying40 hi hz0 hz1 _ _ _ _ n rfl rfl rfl rfl ?b2 ?b3 ?b4 ?_)
  case b2 => rw [hz2]; omega
  case b3 => unfold maxLen; omega
  case b4 => simp
  intro w1 hown hgrow
  have hb1 := below_of_grown hgrow
  obtain ⟨hc, hf⟩ := bcell hb1
  have hs1 := hb1.size
  go_wp2_with fail
  have HST : Hid (TSt w (w1.setCell ⟨w.heap.size, 1, none⟩ (.slice (some ⟨w.heap.size + 1, 0, none⟩) n n)) (w.heap.size + 1) n md P T 0) := TSt.init hb1 (by simpa using hown)
  clear hc hf hb1 hown hgrow hs1 k43
  generalize w1.setCell ⟨w.heap.size, 1, none⟩ (.slice (some ⟨w.heap.size + 1, 0, none⟩) n n) = W1 at *
  go_loopw [4] (fun i wr => ∃ k : Nat, k ≤ n ∧ i = .int .i64 k ∧ Hid (TSt w wr (w.heap.size + 1) n md P T k)) (fun i _ => n - (intOf i).toNat)
  case atStart => exact ⟨0, Nat.zero_le _, rfl, HST⟩
  case round =>
  clear HST
  obtain ⟨k, hk, rfl, HR⟩ := hrel
  have z1 := (HR.out.bel.cell (p := ⟨b, o + 1, none⟩) hb).trans c1
  by_cases hin : k < n
  · obtain ⟨b2, o2, vP, vT, rfl, hb2, hkk⟩ : ∃ (b o : Nat) (vP vT : Nat → Value), a = ⟨b, o, none⟩ ∧ b < w.heap.size ∧
        ∀ k, k < n → w.cell? ⟨b, o + k * 2, none⟩ = some (vP k) ∧ w.cell? ⟨b, o + k * 2 + 1, none⟩ = some (vT k) ∧ ZP w (vP k) (P k) ∧ ZT w (vT k) (T k) := by
      obtain ⟨a', c', hv, _, hq⟩ := hI
      cases hv
      exact hq (by omega)
    obtain ⟨d0, d1, hP, hT⟩ := hkk k hin
    have e0 := (HR.out.bel.cell (p := ⟨b2, o2 + k * 2, none⟩) hb2).trans d0
    have e1 := (HR.out.bel.cell (p := ⟨b2, o2 + k * 2 + 1, none⟩) hb2).trans d1
    have x1 := HR.out.x1
    obtain ⟨yk, hyk⟩ := hT.form
    obtain ⟨ak, nk, ck, hak⟩ := hP.form
    rw [hyk] at e1 hT
    rw [hak] at e0 hP
    have HZP := hP.later HR.out.bel
    have HZT := hT.later HR.out.bel
    have hrow := HR.out.row
    obtain ⟨u0, hu0⟩ := hrow.any (k * 2) (by omega)
    obtain ⟨u1, hu1⟩ := hrow.any (k * 2 + 1) (by omega)
    clear hkk hI d0 d1 hP hT hyk hak
    have hs := HR.out.row.gl
    have hbs := HR.out.bel.size
    have hbk := hBk k hin
    go_wp2_with fail
    go_region_held3 (fun w' => w'.cell? ⟨w.heap.size, 1, none⟩ = some (.slice (some ⟨w.heap.size + 1, 0, none⟩) n n) ∧ w'.cell? ⟨b, o + 1, none⟩ = some (.slice (some ⟨b2, o2, none⟩) n c) ∧ w'.cell? ⟨b2, o2 + k * 2, none⟩ = some (.slice ak nk ck) ∧ w'.cell? ⟨b2, o2 + k * 2 + 1, none⟩ = some (.pointer yk))
      (first | (refine ⟨?_, ?_, ?_, ?_⟩ <;> assumption) | (refine ⟨?_, ?_, ?_, ?_⟩ <;> (rw [set_other (by omega), set_other (by omega)]; assumption)))
      (first | (go_at_call 22; refine (ruleToAPI_calls _ _ (P k) (T k) _ hbk.1 ?_ ?_).mono ?_; exact HZP.later ((Below.refl _ _).drew); exact HZT.later ((Below.refl _ _).drew); rintro e w4 ⟨vP', y', rfl, hR4, hb4⟩; obtain ⟨a5, n5, c5, rfl⟩ := hR4.formP; have hb5 : Below wr.heap.size wr w4 := (Below.refl _ _).drew.trans hb4; have q1 := (below_cell hb5 (show w.heap.size < wr.heap.size by omega)).trans x1; have q2 := (below_cell hb5 (show b < wr.heap.size by omega)).trans z1; have q3 := (below_cell hb5 (show b2 < wr.heap.size by omega)).trans e0; have q4 := (below_cell hb5 (show b2 < wr.heap.size by omega)).trans e1; have q5 := (below_cell hb5 hs).trans hu0; have q6 := (below_cell hb5 hs).trans hu1; have q7 := (below_frozen hb5 hs).trans (hrow.free (k * 2)); have q8 := (below_frozen hb5 hs).trans (hrow.free (k * 2 + 1)); have HNX := hide (HR.out.step (by omega) hin hb5 hR4); clear hR4 hb4 hb5))
    go_wp2
    go_roundw
    case rel => exact ⟨k + 1, by omega, by go_num, HNX⟩
    case measure => simp [intOf]; omega
  obtain rfl : k = n := by omega
  go_wp2_with fail
  go_ret
  exact ⟨rfl, TSt.fin HR.out (by unfold maxLen; omega), HR.out.bel⟩
end Go.Proofs.Qxb6608981aMods
