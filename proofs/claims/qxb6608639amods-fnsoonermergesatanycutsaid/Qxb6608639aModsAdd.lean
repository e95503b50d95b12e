/-
  CONTRACTS of (time.Time).Add, IsZero, Before, Equal and of sooner, at times 'zero + d'.
-/
import Derived.Test.Qxb6608639aModsTime
namespace Go.Proofs.Qxb6608639aMods
open Go.RowKit

/-- The zero time and d nanoseconds. -/
def tm (d : Int) : Value := .agg #[.int .u64 (d % 1000000000), .int .i64 (d / 1000000000), .pointer none]

theorem ret_agg3 {a b c d : Int} (h1 : a = c) (h2 : b = d) : Ending.returned (.agg #[.int .u64 a, .int .i64 b, .pointer none]) = .returned (.agg #[.int .u64 c, .int .i64 d, .pointer none]) := by rw [h1, h2]

set_option maxHeartbeats 800000 in
theorem add_pos (d q r : Int) (hq : d.tdiv 1000000000 = q) (hr : d.tmod 1000000000 = r) (r0 : 0 ≤ r) (r1 : r < 1000000000) (q0 : -10000000000 < q) (q1 : q < 10000000000) (w : World) :
    Calls Trym.prog 8 #[.agg #[.int .u64 0, .int .i64 0, .pointer none], .int .i64 d] w fun e w' => e = .returned (.agg #[.int .u64 r, .int .i64 q, .pointer none]) ∧ Below w.heap.size w w' := by
  have b1 := andNot_zero
  have b2 := or_zero r r0 r1
  have b3 := and_mono r r0 r1
  go_enter Trym.func8, Trym.ntmps8
  go_wp2_with fail
  refine (nsec_calls _ 0 (by decide) (by decide) _ (by simp [go_sem])).mono ?_
  rintro e w' ⟨rfl, rfl⟩
  go_wp2_with fail
  refine (addSec_calls _ r q r0 r1 (by omega) (by omega) _ (by simp [go_sem]) (by simp [go_sem]) (by simp [go_sem])).mono ?_
  rintro e w' ⟨rfl, rfl⟩
  go_wp2
  exact bodyPost_ret (v := .agg #[.int .u64 r, .int .i64 q, .pointer none]) (by simp [results, Trym.results8, go_sem]) rfl ⟨rfl, ((Below.refl _ _).alloc (Nat.le_refl _) _).alloc (by simp) _⟩

set_option maxHeartbeats 800000 in
theorem add_neg (d q r : Int) (hq : d.tdiv 1000000000 = q) (hr : d.tmod 1000000000 = r) (r0 : r < 0) (r1 : -1000000000 < r) (q0 : -10000000000 < q) (q1 : q < 10000000000) (w : World) :
    Calls Trym.prog 8 #[.agg #[.int .u64 0, .int .i64 0, .pointer none], .int .i64 d] w fun e w' => e = .returned (.agg #[.int .u64 (r + 1000000000), .int .i64 (q - 1), .pointer none]) ∧ Below w.heap.size w w' := by
  have b1 := andNot_zero
  have b2 := or_zero (r + 1000000000) (by omega) (by omega)
  have b3 := and_mono (r + 1000000000) (by omega) (by omega)
  go_enter Trym.func8, Trym.ntmps8
  go_wp2_with fail
  refine (nsec_calls _ 0 (by decide) (by decide) _ (by simp [go_sem])).mono ?_
  rintro e w' ⟨rfl, rfl⟩
  go_wp2_with fail
  refine (addSec_calls _ (r + 1000000000) (q - 1) (by omega) (by omega) (by omega) (by omega) _ (by simp [go_sem]) (by simp [go_sem]) (by simp [go_sem])).mono ?_
  rintro e w' ⟨rfl, rfl⟩
  go_wp2
  exact bodyPost_ret (v := .agg #[.int .u64 (r + 1000000000), .int .i64 (q - 1), .pointer none]) (by simp [results, Trym.results8, go_sem]) rfl ⟨rfl, ((Below.refl _ _).alloc (Nat.le_refl _) _).alloc (by simp) _⟩

/-- ADD, from the zero time. -/
theorem add_calls (d : Int) (h0 : -9223372036854775808 ≤ d) (h1 : d ≤ 9223372036854775807) (w : World) :
    Calls Trym.prog 8 #[.agg #[.int .u64 0, .int .i64 0, .pointer none], .int .i64 d] w fun e w' => e = .returned (tm d) ∧ Below w.heap.size w w' := by
  obtain ⟨q, r, hq, hr, hd, hr0, hr1, hp, hn⟩ := tdm d
  unfold tm
  by_cases h : 0 ≤ r
  · have e1 : d % 1000000000 = r := by omega
    have e2 : d / 1000000000 = q := by omega
    rw [e1, e2]
    exact add_pos d q r hq hr h hr1 (by omega) (by omega) w
  · have e1 : d % 1000000000 = r + 1000000000 := by omega
    have e2 : d / 1000000000 = q - 1 := by omega
    rw [e1, e2]
    exact add_neg d q r hq hr (by omega) hr0 (by omega) (by omega) w

theorem ret_bool {a b : Bool} (h : a = b) : Ending.returned (.bool a) = .returned (.bool b) := by rw [h]

set_option maxHeartbeats 400000 in
theorem isZero_lit (n s : Int) (w : World) :
    Calls Trym.prog 9 #[.agg #[.int .u64 n, .int .i64 s, .pointer none]] w fun e w' => e = .returned (.bool (decide (n = 0 ∧ s = 0))) ∧ Below w.heap.size w w' := by
  by_cases h1 : n = 0
  · subst h1
    by_cases h2 : s = 0
    · subst h2
      go_enter Trym.func9, Trym.ntmps9
      go_wp2
      go_ret
      exact ⟨rfl, (Below.refl _ _).alloc (Nat.le_refl _) _⟩
    · have h2' : (s == 0) = false := beq_eq_false_iff_ne.2 h2
      have e : decide ((0 : Int) = 0 ∧ s = 0) = false := decide_eq_false (by omega)
      rw [e]
      clear h2 e
      go_enter Trym.func9, Trym.ntmps9
      go_wp2
      go_ret
      exact ⟨rfl, (Below.refl _ _).alloc (Nat.le_refl _) _⟩
  · have h1' : (n == 0) = false := beq_eq_false_iff_ne.2 h1
    have e : decide (n = 0 ∧ s = 0) = false := decide_eq_false (by omega)
    rw [e]
    clear h1 e
    go_enter Trym.func9, Trym.ntmps9
    go_wp2
    go_ret
    exact ⟨rfl, (Below.refl _ _).alloc (Nat.le_refl _) _⟩

theorem isZero_calls (d : Int) (w : World) : Calls Trym.prog 9 #[tm d] w fun e w' => e = .returned (.bool (decide (d = 0))) ∧ Below w.heap.size w w' := by
  have e : decide (d % 1000000000 = 0 ∧ d / 1000000000 = 0) = decide (d = 0) := by
    rw [decide_eq_decide]; omega
  rw [← e]
  exact isZero_lit _ _ w

set_option maxHeartbeats 800000 in
theorem before_lit (n s m t : Int) (n0 : 0 ≤ n) (n1 : n < 1000000000) (m0 : 0 ≤ m) (m1 : m < 1000000000) (w : World) :
    Calls Trym.prog 19 #[.agg #[.int .u64 n, .int .i64 s, .pointer none], .agg #[.int .u64 m, .int .i64 t, .pointer none]] w fun e w' => e = .returned (.bool (decide (s < t ∨ (s = t ∧ n < m)))) ∧ Below w.heap.size w w' := by
  have hb := and_mono (bits .and .u64 n m) (and_both n m n0 n1 m0 m1).1 (and_both n m n0 n1 m0 m1).2
  by_cases h1 : s < t
  · have e : decide (s < t ∨ (s = t ∧ n < m)) = true := decide_eq_true (by omega)
    rw [e]; clear e
    go_enter Trym.func19, Trym.ntmps19
    go_wp2_with fail
    refine (sec_calls _ n s n0 n1 _ (by simp [go_sem]) (by simp [go_sem])).mono ?_
    rintro e w' ⟨rfl, rfl⟩
    go_wp2_with fail
    refine (sec_calls _ m t m0 m1 _ (by simp [go_sem]) (by simp [go_sem])).mono ?_
    rintro e w' ⟨rfl, rfl⟩
    go_wp2_with fail
    go_ret
    exact ⟨rfl, ((Below.refl _ _).alloc (Nat.le_refl _) _).alloc (by simp) _⟩
  by_cases h2 : s = t
  · subst h2
    have e : decide (s < s ∨ (s = s ∧ n < m)) = decide (n < m) := by rw [decide_eq_decide]; omega
    rw [e]; clear e
    go_enter Trym.func19, Trym.ntmps19
    go_wp2_with fail
    refine (sec_calls _ n s n0 n1 _ (by simp [go_sem]) (by simp [go_sem])).mono ?_
    rintro e w' ⟨rfl, rfl⟩
    go_wp2_with fail
    refine (sec_calls _ m s m0 m1 _ (by simp [go_sem]) (by simp [go_sem])).mono ?_
    rintro e w' ⟨rfl, rfl⟩
    go_wp2_with fail
    refine (nsec_calls _ n n0 n1 _ (by simp [go_sem])).mono ?_
    rintro e w' ⟨rfl, rfl⟩
    go_wp2_with fail
    refine (nsec_calls _ m m0 m1 _ (by simp [go_sem])).mono ?_
    rintro e w' ⟨rfl, rfl⟩
    go_wp2_with fail
    go_ret
    exact ⟨rfl, ((Below.refl _ _).alloc (Nat.le_refl _) _).alloc (by simp) _⟩
  · have h2' : (s == t) = false := beq_eq_false_iff_ne.2 h2
    have e : decide (s < t ∨ (s = t ∧ n < m)) = false := decide_eq_false (by omega)
    rw [e]; clear e h2
    go_enter Trym.func19, Trym.ntmps19
    go_wp2_with fail
    refine (sec_calls _ n s n0 n1 _ (by simp [go_sem]) (by simp [go_sem])).mono ?_
    rintro e w' ⟨rfl, rfl⟩
    go_wp2_with fail
    refine (sec_calls _ m t m0 m1 _ (by simp [go_sem]) (by simp [go_sem])).mono ?_
    rintro e w' ⟨rfl, rfl⟩
    go_wp2_with fail
    go_ret
    exact ⟨ret_bool (decide_eq_false (by omega)), ((Below.refl _ _).alloc (Nat.le_refl _) _).alloc (by simp) _⟩

set_option maxHeartbeats 800000 in
theorem equal_lit (n s m t : Int) (n0 : 0 ≤ n) (n1 : n < 1000000000) (m0 : 0 ≤ m) (m1 : m < 1000000000) (w : World) :
    Calls Trym.prog 11 #[.agg #[.int .u64 n, .int .i64 s, .pointer none], .agg #[.int .u64 m, .int .i64 t, .pointer none]] w fun e w' => e = .returned (.bool (decide (s = t ∧ n = m))) ∧ Below w.heap.size w w' := by
  have hb := and_mono (bits .and .u64 n m) (and_both n m n0 n1 m0 m1).1 (and_both n m n0 n1 m0 m1).2
  by_cases h2 : s = t
  · subst h2
    have e : decide (s = s ∧ n = m) = (n == m) := by rw [Bool.eq_iff_iff]; simp
    rw [e]; clear e
    go_enter Trym.func11, Trym.ntmps11
    go_wp2_with fail
    refine (sec_calls _ n s n0 n1 _ (by simp [go_sem]) (by simp [go_sem])).mono ?_
    rintro e w' ⟨rfl, rfl⟩
    go_wp2_with fail
    refine (sec_calls _ m s m0 m1 _ (by simp [go_sem]) (by simp [go_sem])).mono ?_
    rintro e w' ⟨rfl, rfl⟩
    go_wp2_with fail
    refine (nsec_calls _ n n0 n1 _ (by simp [go_sem])).mono ?_
    rintro e w' ⟨rfl, rfl⟩
    go_wp2_with fail
    refine (nsec_calls _ m m0 m1 _ (by simp [go_sem])).mono ?_
    rintro e w' ⟨rfl, rfl⟩
    go_wp2_with fail
    go_ret
    exact ⟨rfl, ((Below.refl _ _).alloc (Nat.le_refl _) _).alloc (by simp) _⟩
  · have h2' : (s == t) = false := beq_eq_false_iff_ne.2 h2
    have e : decide (s = t ∧ n = m) = false := decide_eq_false (by omega)
    rw [e]; clear e h2
    go_enter Trym.func11, Trym.ntmps11
    go_wp2_with fail
    refine (sec_calls _ n s n0 n1 _ (by simp [go_sem]) (by simp [go_sem])).mono ?_
    rintro e w' ⟨rfl, rfl⟩
    go_wp2_with fail
    refine (sec_calls _ m t m0 m1 _ (by simp [go_sem]) (by simp [go_sem])).mono ?_
    rintro e w' ⟨rfl, rfl⟩
    go_wp2_with fail
    go_ret
    exact ⟨rfl, ((Below.refl _ _).alloc (Nat.le_refl _) _).alloc (by simp) _⟩

theorem before_calls (a b : Int) (w : World) : Calls Trym.prog 19 #[tm a, tm b] w fun e w' => e = .returned (.bool (decide (a < b))) ∧ Below w.heap.size w w' := by
  have e : decide (a / 1000000000 < b / 1000000000 ∨ (a / 1000000000 = b / 1000000000 ∧ a % 1000000000 < b % 1000000000)) = decide (a < b) := by
    rw [decide_eq_decide]; omega
  rw [← e]
  exact before_lit _ _ _ _ (by omega) (by omega) (by omega) (by omega) w

theorem equal_calls (a b : Int) (w : World) : Calls Trym.prog 11 #[tm a, tm b] w fun e w' => e = .returned (.bool (decide (a = b))) ∧ Below w.heap.size w w' := by
  have e : decide (a / 1000000000 = b / 1000000000 ∧ a % 1000000000 = b % 1000000000) = decide (a = b) := by
    rw [decide_eq_decide]; omega
  rw [← e]
  exact equal_lit _ _ _ _ (by omega) (by omega) (by omega) (by omega) w

/-- The sooner of two: a = 0 says none. -/
def soon (a b : Int) : Int := if a = 0 ∨ b < a then b else a

theorem bcell {W w1 : World} (hb : Below W.heap.size W w1) : (∀ b o, b < W.heap.size → w1.cell? ⟨b, o, none⟩ = W.cell? ⟨b, o, none⟩) ∧ (∀ b o, b < W.heap.size → w1.frozen? ⟨b, o, none⟩ = W.frozen? ⟨b, o, none⟩) :=
  ⟨fun b o h => hb.cell (p := ⟨b, o, none⟩) h, fun b o h => hb.frozen (p := ⟨b, o, none⟩) h⟩

/-- What the three boxes and the call leave. -/
theorem below3 {w w1 : World} {o1 o2 o3 : Obj} (hb : Below (((w.alloc o1).alloc o2).alloc o3).heap.size (((w.alloc o1).alloc o2).alloc o3) w1) : Below w.heap.size w w1 :=
  ((((Below.refl _ _).alloc (Nat.le_refl _) _).alloc (by simp) _).alloc (by simp; omega) _).trans (hb.mono (by simp; omega))
theorem below_set3 {w w1 : World} (h : Below w.heap.size w w1) (g : Nat) (hg : w.heap.size ≤ g) (v0 v1 v2 : Value) : Below w.heap.size w (((w1.setCell ⟨g, 0, none⟩ v0).setCell ⟨g, 1, none⟩ v1).setCell ⟨g, 2, none⟩ v2) :=
  ((h.setCell (p := ⟨g, 0, none⟩) hg v0).setCell (p := ⟨g, 1, none⟩) hg v1).setCell (p := ⟨g, 2, none⟩) hg v2

set_option maxHeartbeats 800000 in
/-- a is none: b. -/
theorem sooner_none (n s m t : Int) (HC : Hid (∀ w, Calls Trym.prog 9 #[.agg #[.int .u64 n, .int .i64 s, .pointer none]] w fun e w' => e = .returned (.bool true) ∧ Below w.heap.size w w')) (w : World) :
    Calls Trym.prog 13 #[.agg #[.int .u64 n, .int .i64 s, .pointer none], .agg #[.int .u64 m, .int .i64 t, .pointer none]] w fun e w' => e = .returned (.agg #[.int .u64 m, .int .i64 t, .pointer none]) ∧ Below w.heap.size w w' := by
  go_enter Trym.func13, Trym.ntmps13
  go_wp2_with fail
  refine (HC.out _).mono ?_
  rintro e w1 ⟨rfl, hb⟩
  obtain ⟨hc, hf⟩ := bcell hb
  have hz : w.heap.size + 1 + 1 < w1.heap.size := by have := hb.size; simp at this; omega
  go_wp2_with fail
  exact bodyPost_ret (v := .agg #[.int .u64 m, .int .i64 t, .pointer none]) (by simp [results, Trym.results13, go_sem, hc]) rfl ⟨rfl, below_set3 (below3 hb) _ (by omega) _ _ _⟩

set_option maxHeartbeats 800000 in
/-- a is there; 'b before a' says which. -/
theorem sooner_some (n s m t : Int) (bb : Bool) (HC : Hid (∀ w, Calls Trym.prog 9 #[.agg #[.int .u64 n, .int .i64 s, .pointer none]] w fun e w' => e = .returned (.bool false) ∧ Below w.heap.size w w'))
    (HB : Hid (∀ w, Calls Trym.prog 19 #[.agg #[.int .u64 m, .int .i64 t, .pointer none], .agg #[.int .u64 n, .int .i64 s, .pointer none]] w fun e w' => e = .returned (.bool bb) ∧ Below w.heap.size w w')) (w : World) :
    Calls Trym.prog 13 #[.agg #[.int .u64 n, .int .i64 s, .pointer none], .agg #[.int .u64 m, .int .i64 t, .pointer none]] w fun e w' => e = .returned (if bb then .agg #[.int .u64 m, .int .i64 t, .pointer none] else .agg #[.int .u64 n, .int .i64 s, .pointer none]) ∧ Below w.heap.size w w' := by
  cases bb with
  | true =>
    go_enter Trym.func13, Trym.ntmps13
    go_wp2_with fail
    refine (HC.out _).mono ?_
    rintro e w1 ⟨rfl, hb⟩
    obtain ⟨hc, hf⟩ := bcell hb
    have hz : w.heap.size + 1 + 1 < w1.heap.size := by have := hb.size; simp at this; omega
    go_wp2_with fail
    refine (HB.out _).mono ?_
    rintro e w2 ⟨rfl, hb2⟩
    replace hb := hb.trans (hb2.mono hb.size)
    clear hc hf hz hb2
    obtain ⟨hc, hf⟩ := bcell hb
    have hz : w.heap.size + 1 + 1 < w2.heap.size := by have := hb.size; simp at this; omega
    go_wp2_with fail
    exact bodyPost_ret (v := .agg #[.int .u64 m, .int .i64 t, .pointer none]) (by simp [results, Trym.results13, go_sem, hc]) rfl ⟨rfl, below_set3 (below3 hb) _ (by omega) _ _ _⟩
  | false =>
    go_enter Trym.func13, Trym.ntmps13
    go_wp2_with fail
    refine (HC.out _).mono ?_
    rintro e w1 ⟨rfl, hb⟩
    obtain ⟨hc, hf⟩ := bcell hb
    have hz : w.heap.size + 1 + 1 < w1.heap.size := by have := hb.size; simp at this; omega
    go_wp2_with fail
    refine (HB.out _).mono ?_
    rintro e w2 ⟨rfl, hb2⟩
    replace hb := hb.trans (hb2.mono hb.size)
    clear hc hf hz hb2
    obtain ⟨hc, hf⟩ := bcell hb
    have hz : w.heap.size + 1 + 1 < w2.heap.size := by have := hb.size; simp at this; omega
    go_wp2_with fail
    exact bodyPost_ret (v := .agg #[.int .u64 n, .int .i64 s, .pointer none]) (by simp [results, Trym.results13, go_sem, hc]) rfl ⟨rfl, below_set3 (below3 hb) _ (by omega) _ _ _⟩

theorem sooner_calls (a b : Int) (w : World) : Calls Trym.prog 13 #[tm a, tm b] w fun e w' => e = .returned (tm (soon a b)) ∧ Below w.heap.size w w' := by
  by_cases h1 : a = 0
  · have e : soon a b = b := by simp [soon, h1]
    rw [e]
    have HC := isZero_calls a
    rw [decide_eq_true h1] at HC
    exact sooner_none _ _ _ _ HC w
  · have HC := isZero_calls a
    rw [decide_eq_false h1] at HC
    have e : tm (soon a b) = if decide (b < a) then tm b else tm a := by
      by_cases h2 : b < a <;> simp [soon, h1, h2]
    rw [e]
    exact sooner_some _ _ _ _ _ HC (before_calls b a) w

set_option maxHeartbeats 800000 in
theorem zz_lit (n s m t x y : Int) (HC : Hid (∀ w, Calls Trym.prog 13 #[.agg #[.int .u64 n, .int .i64 s, .pointer none], .agg #[.int .u64 m, .int .i64 t, .pointer none]] w fun e w' => e = .returned (.agg #[.int .u64 x, .int .i64 y, .pointer none]) ∧ Below w.heap.size w w')) (w : World) :
    Calls Trym.prog 7 #[.agg #[.int .u64 n, .int .i64 s, .pointer none], .agg #[.int .u64 m, .int .i64 t, .pointer none]] w fun e w' => e = .returned (.agg #[.int .u64 x, .int .i64 y, .pointer none]) ∧ Below w.heap.size w w' := by
  go_enter Trym.func7, Trym.ntmps7
  go_wp2_with fail
  refine (HC.out _).mono ?_
  rintro e w1 ⟨rfl, hb⟩
  obtain ⟨hc, hf⟩ := bcell hb
  have hz : w.heap.size + 1 + 1 < w1.heap.size := by have := hb.size; simp at this; omega
  go_wp2_with fail
  exact bodyPost_ret (v := .agg #[.int .u64 x, .int .i64 y, .pointer none]) (by simp [results, Trym.results7, go_sem, hc]) rfl ⟨rfl, below_set3 (below3 hb) _ (by omega) _ _ _⟩

theorem zz_calls (a b : Int) (w : World) : Calls Trym.prog 7 #[tm a, tm b] w fun e w' => e = .returned (tm (soon a b)) ∧ Below w.heap.size w w' :=
  zz_lit _ _ _ _ _ _ (sooner_calls a b) w
end Go.Proofs.Qxb6608639aMods
