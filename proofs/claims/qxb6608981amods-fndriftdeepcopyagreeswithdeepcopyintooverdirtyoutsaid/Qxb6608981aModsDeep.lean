/-
  CONTRACTS of (*DriftDetection).DeepCopyInto and DeepCopy; zzToAPI, whole.
-/
import Derived.Test.Qxb6608981aModsCopy
namespace Go.Proofs.Qxb6608981aMods
open Go.RowKit

/-- The state in DeepCopyInto's loop. -/
structure CSt (w wr : World) (gy g n : Nat) (md : ByteArray) (P : Nat → Pth) (T : Nat → Tgt) (k : Nat) : Prop where
  put : Put w.heap.size w wr gy 0
  y0 : wr.cell? ⟨gy, 0, none⟩ = some (.string md)
  y1 : wr.cell? ⟨gy, 1, none⟩ = some (.slice (some ⟨g, 0, none⟩) n n)
  row : Row wr g n
  upto : Upto wr g k P T

theorem CSt.step {w wr w5 : World} {gy n : Nat} {md : ByteArray} {P : Nat → Pth} {T : Nat → Tgt} {k n1 : Nat} {vP : Value} {y : Option Addr} (h : CSt w wr gy w.heap.size n md P T k) (hgy : gy < w.heap.size)
    (c0 : w5.cell? ⟨w.heap.size, k * 2, none⟩ = some vP) (c1 : w5.cell? ⟨w.heap.size, k * 2 + 1, none⟩ = some (.pointer y)) (hr : RIn w5 wr.heap.size w5.heap.size vP (.pointer y) (P k) (T k)) (hp : Put wr.heap.size (wr.drewN n1) w5 w.heap.size (k * 2)) :
    CSt w w5 gy w.heap.size n md P T (k + 1) := by
  obtain ⟨put, y0, y1, row, upto⟩ := h
  have hp' : Put wr.heap.size wr w5 w.heap.size (k * 2) := (put_drew _ _ _ _ _).trans hp
  have hws := put.size
  have hb : Below w.heap.size wr w5 := hp'.toBelow hws (Nat.le_refl _)
  have gl := row.gl
  refine ⟨put.trans (Put.below hb (Nat.le_refl _) hgy), (below_cell hb hgy).trans y0, (below_cell hb hgy).trans y1, ⟨Nat.lt_of_lt_of_le gl hp'.size, fun t ht => ?_, fun t => (hp'.fz t).trans (row.free t)⟩, ?_⟩
  · by_cases e0 : t = k * 2
    · rw [e0]; exact ⟨_, c0⟩
    · by_cases e1 : t = k * 2 + 1
      · rw [e1]; exact ⟨_, c1⟩
      · rw [hp'.cell t e0 e1]; exact row.any t ht
  · exact upto.step (hp'.agree (Nat.le_refl _) (.inl (Nat.lt_succ_self _))) hp'.cell hp'.fz ⟨c0, c1, (hp'.fz _).trans (row.free _), (hp'.fz _).trans (row.free _), hr⟩

theorem CSt.init {w w1 : World} {gy n n1 : Nat} {md : ByteArray} {v1 : Value} {P : Nat → Pth} {T : Nat → Tgt} {xs : List Value} {u0 u1 : Value} (hgy : gy < w.heap.size) (d0 : w.cell? ⟨gy, 0, none⟩ = some u0) (d1 : w.cell? ⟨gy, 1, none⟩ = some u1)
    (hb1 : Below w.heap.size (((w.setCell ⟨gy, 0, none⟩ (.string md)).setCell ⟨gy, 1, none⟩ v1).drewN n1) w1) (hown : w1.ownsRow w.heap.size 56 2 (.slice (some ⟨w.heap.size, 0, none⟩) n n) n xs) :
    CSt w (w1.setCell ⟨gy, 1, none⟩ (.slice (some ⟨w.heap.size, 0, none⟩) n n)) gy w.heap.size n md P T 0 := by
  have hrow := Row.made hown
  have pA : Put w.heap.size w w1 gy 0 := (((Put.set (.string md) (.inl rfl)).trans (Put.set v1 (.inr rfl))).trans (put_drew _ _ _ _ _)).trans (Put.below hb1 (Nat.le_refl _) hgy)
  have s0 : w1.cell? ⟨gy, 0, none⟩ = some (.string md) := by
    rw [below_cell hb1 hgy]
    show ((w.setCell ⟨gy, 0, none⟩ (.string md)).setCell ⟨gy, 1, none⟩ v1).cell? ⟨gy, 0, none⟩ = _
    rw [set_far (by omega)]; exact set_same d0
  have s1 : w1.cell? ⟨gy, 1, none⟩ = some v1 := by
    rw [below_cell hb1 hgy]
    exact set_same (u := u1) (by rw [set_far (by omega)]; exact d1)
  refine ⟨pA.trans (Put.set _ (.inr rfl)), ?_, set_same s1, hrow.keep (by rw [set_size]; exact Nat.le_refl _) (Agree.set (by omega)), Upto.zero (by rw [set_size]; exact hrow.gl)⟩
  rw [set_far (by omega)]; exact s0

set_option maxHeartbeats 1600000 in
theorem copyDrift_some (gx gy gr n : Nat) (md : ByteArray) (P : Nat → Pth) (T : Nat → Tgt) (m : Nat → Nat) (vP vT : Nat → Value) (a b : Nat) (w : World) (hB : IgsB (some (n, P, T))) (hgx : gx < w.heap.size) (hgy : gy < w.heap.size) (hne : gx ≠ gy) (hgr : gr < w.heap.size) (hry : gr ≠ gy) (hb : b ≤ w.heap.size) (hout : gy < a ∨ b ≤ gy)
    (c0 : w.cell? ⟨gx, 0, none⟩ = some (.string md)) (c1 : w.cell? ⟨gx, 1, none⟩ = some (.slice (some ⟨gr, 0, none⟩) n n)) (ham : a ≤ m 0) (hmb : m n ≤ b) (hk : ∀ k, k < n → RAt w gr k (m k) (m (k + 1)) (vP k) (vT k) (P k) (T k))
    (u0 u1 : Value) (d0 : w.cell? ⟨gy, 0, none⟩ = some u0) (d1 : w.cell? ⟨gy, 1, none⟩ = some u1) (f0 : w.frozen? ⟨gy, 0, none⟩ = false) (f1 : w.frozen? ⟨gy, 1, none⟩ = false) :
    Calls Trym.prog 19 #[.pointer (some ⟨gx, 0, none⟩), .pointer (some ⟨gy, 0, none⟩)] w fun e w' => e = .returned (.tuple #[]) ∧ CSt w w' gy w.heap.size n md P T n := by
  obtain ⟨i0, hi, hz0, hz1, hz2⟩ := info_parts Trym.info56
  have k40 := neq40
  obtain ⟨hn, hBk⟩ := hB
  go_enter Trym.func19, Trym.ntmps19
  go_wp2_with fail
  go_quiet (fail)
  go_wp2_with (at_make; refine wpList_make_full _ rfl (.tmp 27) (.tmp 27) 40 rfl w.heap.size 56 i0 (.agg #[.slice none 0 0, .pointer none]) 2 Trym.underlying40 hi hz0 hz1 _ _ _ _ n rfl rfl rfl rfl ?b2 ?b3 ?b4 ?_)
  case b2 => rw [hz2]; omega
  case b3 => unfold maxLen; omega
  case b4 => simp
  intro w1 hown hgrow
  have hb1 := below_of_grown hgrow
  have hsz : (((w.setCell ⟨gy, 0, none⟩ (.string md)).setCell ⟨gy, 1, none⟩ (.slice (some ⟨gr, 0, none⟩) n n)).drewN nq).heap.size = w.heap.size := by
    show ((w.setCell ⟨gy, 0, none⟩ (.string md)).setCell ⟨gy, 1, none⟩ (.slice (some ⟨gr, 0, none⟩) n n)).heap.size = _
    rw [set_size, set_size]
  rw [hsz] at hb1
  have HST : Hid (CSt w (w1.setCell ⟨gy, 1, none⟩ (.slice (some ⟨w.heap.size, 0, none⟩) n n)) gy w.heap.size n md P T 0) := CSt.init hgy d0 d1 hb1 (by simpa using hown)
  have t0 : w1.cell? ⟨gx, 1, none⟩ = some (.slice (some ⟨gr, 0, none⟩) n n) := by
    rw [below_cell hb1 hgx]
    show ((w.setCell ⟨gy, 0, none⟩ _).setCell ⟨gy, 1, none⟩ _).cell? ⟨gx, 1, none⟩ = _
    rw [set_other hne, set_other hne]; exact c1
  have t1 : w1.cell? ⟨gy, 1, none⟩ = some (.slice (some ⟨gr, 0, none⟩) n n) := by
    rw [below_cell hb1 hgy]
    exact set_same (u := u1) (by rw [set_far (by omega)]; exact d1)
  have t2 : w1.frozen? ⟨gy, 1, none⟩ = false := by
    rw [below_frozen hb1 hgy]
    show ((w.setCell ⟨gy, 0, none⟩ _).setCell ⟨gy, 1, none⟩ _).frozen? ⟨gy, 1, none⟩ = _
    rw [World.frozen?_setCell, World.frozen?_setCell]; exact f1
  have hgn : ¬ gy = gx := by omega
  clear hown hgrow hb1 hsz d0 d1 f0 f1 c0
  go_wp2_with fail
  clear t0 t1 t2
  generalize w1.setCell ⟨gy, 1, none⟩ (.slice (some ⟨w.heap.size, 0, none⟩) n n) = W1 at *
  go_loopw [34] (fun i wr => ∃ k : Nat, k ≤ n ∧ i = .int .i64 k ∧ Hid (CSt w wr gy w.heap.size n md P T k)) (fun i _ => n - (intOf i).toNat)
  case atStart => exact ⟨0, Nat.zero_le _, rfl, HST⟩
  case round =>
  clear HST
  obtain ⟨k, hkn, rfl, HR⟩ := hrel
  by_cases hin : k < n
  · have cx : ∀ g' o', g' < w.heap.size → g' ≠ gy → wr.cell? ⟨g', o', none⟩ = w.cell? ⟨g', o', none⟩ := fun g' o' h1 h2 => World.cell?_of_block (w := w) (HR.out.put.block g' h1 h2)
    have x1 := (cx gx 1 hgx hne).trans c1
    have hRk := hk k hin
    have e0 := (cx gr (k * 2) hgr hry).trans hRk.c0
    have e1 := (cx gr (k * 2 + 1) hgr hry).trans hRk.c1
    have y1 := HR.out.y1
    have gl := HR.out.row.gl
    have hle : ∀ {i j : Nat}, i ≤ j → j ≤ n → m i ≤ m j := bounds_le (fun t ht => (hk t ht).rule.le)
    have hm0k := hle (show 0 ≤ k by omega) (by omega)
    have hmkn := hle (show k + 1 ≤ n by omega) (Nat.le_refl n)
    have hrule := hRk.rule.keep (HR.out.put.agree (b := m (k + 1)) (a := m k) (by omega) (by omega))
    have hws := HR.out.put.size
    obtain ⟨v0, hv0⟩ := HR.out.row.any (k * 2) (by omega)
    obtain ⟨v1, hv1⟩ := HR.out.row.any (k * 2 + 1) (by omega)
    have fr0 := HR.out.row.free (k * 2)
    have fr1 := HR.out.row.free (k * 2 + 1)
    have hBP := (hBk k hin).1
    have HCC : Hid (∀ nn, Calls Trym.prog 24 #[.pointer (some ⟨gr, k * 2, none⟩), .pointer (some ⟨w.heap.size, k * 2, none⟩)] (wr.drewN nn) fun e w' => e = .returned (.tuple #[]) ∧ CSt w w' gy w.heap.size n md P T (k + 1)) := fun nn =>
      (copyRule_calls gr (k * 2) w.heap.size (k * 2) (vP k) (vT k) (P k) (T k) (m k) (m (k + 1)) (wr.drewN nn) hBP (by omega) (show gr < wr.heap.size by omega) gl e0 e1 v0 v1 hv0 hv1 fr0 fr1 (hrule.keep (Agree.drewN _ _ _ _)) (show m (k + 1) ≤ wr.heap.size by omega) (.inr (by omega))).mono
        fun e w' ⟨he, vP', y', q0, q1, q2, q3⟩ => ⟨he, HR.out.step hgy q0 q1 q2 q3⟩
    clear cx hRk e0 e1 hrule hv0 hv1 fr0 fr1 HR hBk hk
    go_wp2_with fail
    refine wp_region_drew_last rfl (by kernel_rfl) (by kernel_rfl) (by kernel_rfl) (by kernel_rfl) (by kernel_rfl) ?_
    dsimp only [List.dropLast, List.getLast]
    repeat (go_big_quiet_step (fail))
    refine wpQuiet_nil ?_
    rintro _ ⟨n3, rfl⟩
    go_wp2_with fail
    refine (HCC.out _).mono ?_
    rintro e w5 ⟨rfl, HN⟩
    have HN' := hide HN
    clear HN HCC x1 y1
    go_wp2
    go_roundw
    case rel => exact ⟨k + 1, by omega, by go_num, HN'⟩
    case measure => simp [intOf]; omega
  obtain rfl : k = n := by omega
  go_wp2_with fail
  go_end0
  exact ⟨rfl, HR.out⟩

set_option maxHeartbeats 800000 in
theorem copyDrift_none (gx gy : Nat) (md : ByteArray) (w : World) (hne : gx ≠ gy) (c0 : w.cell? ⟨gx, 0, none⟩ = some (.string md)) (c1 : w.cell? ⟨gx, 1, none⟩ = some (.slice none 0 0))
    (u0 u1 : Value) (d0 : w.cell? ⟨gy, 0, none⟩ = some u0) (d1 : w.cell? ⟨gy, 1, none⟩ = some u1) (f0 : w.frozen? ⟨gy, 0, none⟩ = false) (f1 : w.frozen? ⟨gy, 1, none⟩ = false) :
    Calls Trym.prog 19 #[.pointer (some ⟨gx, 0, none⟩), .pointer (some ⟨gy, 0, none⟩)] w fun e w' => e = .returned (.tuple #[]) ∧ (w.setCell ⟨gy, 0, none⟩ (.string md)).setCell ⟨gy, 1, none⟩ (.slice none 0 0) = w' := by
  have k40 := neq40
  have hgn : ¬ gy = gx := by omega
  go_enter Trym.func19, Trym.ntmps19
  go_wp2_with fail
  go_end0
  exact ⟨rfl, rfl⟩

/-- DEEPCOPYINTO, over whatever lay in out. -/
theorem copyDrift_calls (gx gy a b : Nat) (md : ByteArray) (ig : Igs) (w : World) (hB : IgsB ig) (hx : DIn w a b gx md ig) (hb : b ≤ w.heap.size) (hgy : gy < w.heap.size) (hout : gy < a ∨ b ≤ gy)
    (u0 u1 : Value) (d0 : w.cell? ⟨gy, 0, none⟩ = some u0) (d1 : w.cell? ⟨gy, 1, none⟩ = some u1) (f0 : w.frozen? ⟨gy, 0, none⟩ = false) (f1 : w.frozen? ⟨gy, 1, none⟩ = false) :
    Calls Trym.prog 19 #[.pointer (some ⟨gx, 0, none⟩), .pointer (some ⟨gy, 0, none⟩)] w fun e w' => e = .returned (.tuple #[]) ∧ DIn w' gy w'.heap.size gy md ig ∧ Put w.heap.size w w' gy 0 := by
  obtain ⟨lo, c0, _, _, ⟨v, hv, hi⟩, hgb⟩ := hx
  cases ig with
  | none =>
    obtain rfl : v = .slice none 0 0 := hi
    refine (copyDrift_none gx gy md w (by omega) c0 hv u0 u1 d0 d1 f0 f1).mono fun e w' ⟨he, hw⟩ => ⟨he, ?_, ?_⟩
    · subst hw
      refine ⟨Nat.le_refl _, by rw [set_far (by omega)]; exact set_same d0, by rw [World.frozen?_setCell, World.frozen?_setCell]; exact f0, by rw [World.frozen?_setCell, World.frozen?_setCell]; exact f1,
        ⟨.slice none 0 0, set_same (u := u1) (by rw [set_far (by omega)]; exact d1), rfl⟩, by rw [set_size, set_size]; exact hgy⟩
    · subst hw
      exact (Put.set _ (.inl rfl)).trans (Put.set _ (.inr rfl))
  | some p =>
    obtain ⟨n, P, T⟩ := p
    obtain ⟨gr, m, vP, vT, rfl, h1, hn, hm0, hmn, hk⟩ := hi
    have hle : ∀ {i j : Nat}, i ≤ j → j ≤ n → m i ≤ m j := bounds_le (fun t ht => (hk t ht).rule.le)
    have h0n := hle (Nat.zero_le n) (Nat.le_refl n)
    refine (copyDrift_some gx gy gr n md P T m vP vT a b w hB (by omega) hgy (by omega) (by omega) (by omega) hb hout c0 hv (by omega) hmn hk u0 u1 d0 d1 f0 f1).mono fun e w' ⟨he, hs⟩ => ⟨he, ?_, hs.put⟩
    have := hs.row.gl
    exact ⟨Nat.le_refl _, hs.y0, (hs.put.fz 0).trans f0, (hs.put.fz 1).trans f1, ⟨_, hs.y1, hs.upto.done (by omega) hn⟩, by omega⟩

set_option maxHeartbeats 800000 in
theorem deepCopy_nil (w : World) : Calls Trym.prog 15 #[.pointer none] w fun e w' => e = .returned (.pointer none) ∧ w = w' := by
  go_enter Trym.func15, Trym.ntmps15
  go_wp2
  go_ret
  exact ⟨rfl, rfl⟩

set_option maxHeartbeats 800000 in
/-- DEEPCOPY. -/
theorem deepCopy_calls (gx a b : Nat) (md : ByteArray) (ig : Igs) (w : World) (hB : IgsB ig) (hx : DIn w a b gx md ig) (hb : b ≤ w.heap.size) :
    Calls Trym.prog 15 #[.pointer (some ⟨gx, 0, none⟩)] w fun e w' => e = .returned (.pointer (some ⟨w.heap.size, 0, none⟩)) ∧ DIn w' w.heap.size w'.heap.size w.heap.size md ig ∧ Below w.heap.size w w' := by
  have ba : Below w.heap.size w (w.alloc (.cells #[.string { data := #[] }, .slice none 0 0] 42)) := (Below.refl _ _).alloc (Nat.le_refl _) _
  have HC := hide (copyDrift_calls gx w.heap.size a b md ig (w.alloc (.cells #[.string { data := #[] }, .slice none 0 0] 42)) hB (hx.keep ((Agree.of ba).mono (Nat.zero_le _) hb)) (by simp; omega) (by simp) (.inr hb)
    (.string { data := #[] }) (.slice none 0 0) (by simp) (by simp) (by simp [go_sem]) (by simp [go_sem]))
  clear hx
  go_enter Trym.func15, Trym.ntmps15
  go_wp2_with fail
  refine HC.out.mono ?_
  rintro e w' ⟨rfl, hD, hP⟩
  have HF : Hid (DIn w' w.heap.size w'.heap.size w.heap.size md ig ∧ Below w.heap.size w w') := ⟨hD, ba.trans (hP.toBelow (by simp) (Nat.le_refl _))⟩
  clear hD hP HC ba
  go_wp2
  go_ret
  exact ⟨rfl, HF.out⟩

/-! ### zzToAPI -/
set_option maxHeartbeats 800000 in
theorem toAPI_nil (w : World) : Calls Trym.prog 14 #[.pointer none] w fun e w' => e = .returned (.pointer none) ∧ w = w' := by
  go_enter Trym.func14, Trym.ntmps14
  go_wp2
  go_ret
  exact ⟨rfl, rfl⟩
set_option maxHeartbeats 800000 in
theorem toAPI_none (b o : Nat) (md : ByteArray) (w : World) (c0 : w.cell? ⟨b, o, none⟩ = some (.string md)) (c1 : w.cell? ⟨b, o + 1, none⟩ = some (.slice none 0 0)) (hb : b < w.heap.size) :
    Calls Trym.prog 14 #[.pointer (some ⟨b, o, none⟩)] w fun e w' => e = .returned (.pointer (some ⟨w.heap.size, 0, none⟩)) ∧ w.alloc (.cells #[.string md, .slice none 0 0] 42) = w' := by
  have k43 := neq43
  go_enter Trym.func14, Trym.ntmps14
  go_wp2
  go_ret
  exact ⟨rfl, rfl⟩
theorem toAPI_calls (b o : Nat) (md : ByteArray) (ig : Igs) (w : World) (hB : IgsB ig) (z : ZD w b o md ig) :
    Calls Trym.prog 14 #[.pointer (some ⟨b, o, none⟩)] w fun e w' => e = .returned (.pointer (some ⟨w.heap.size, 0, none⟩)) ∧ DIn w' w.heap.size w'.heap.size w.heap.size md ig ∧ Below w.heap.size w w' := by
  obtain ⟨hb, hm, c0, v, c1, hI⟩ := z
  cases ig with
  | none =>
    obtain rfl : v = .slice none 0 0 := hI
    refine (toAPI_none b o md w c0 c1 hb).mono fun e w' ⟨he, hw⟩ => ⟨he, ?_, ?_⟩
    · subst hw
      exact ⟨Nat.le_refl _, by simp, by simp [go_sem], by simp [go_sem], ⟨.slice none 0 0, by simp, rfl⟩, by simp⟩
    · subst hw
      exact (Below.refl _ _).alloc (Nat.le_refl _) _
  | some p =>
    obtain ⟨n, P, T⟩ := p
    have hI' := hI
    obtain ⟨a, c, rfl, -⟩ := hI'
    exact toAPI_some b o md a n c P T w hb hB c0 c1 hI
end Go.Proofs.Qxb6608981aMods
