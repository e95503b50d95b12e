/-
  CONTRACTS of zzTake, zzSelToAPI, zzSameSel, zzSelBudget.
-/
import Derived.Test.Qxb6608981aModsMem
namespace Go.Proofs.Qxb6608981aMods
open Go.RowKit

theorem take_yes (r n : Int) (h0 : 0 ≤ n) (h : n ≤ r) (h1 : r ≤ 1048576) (w : World) : Calls Trym.prog 20 #[.int .i64 r, .int .i64 n] w fun e w' => e = .returned (.tuple #[.int .i64 (r - n), .bool true]) ∧ w = w' := by
  go_enter Trym.func20, Trym.ntmps20
  go_wp2
  go_ret2
  exact ⟨rfl, rfl⟩
theorem take_no (r n : Int) (h : ¬ n ≤ r) (w : World) : Calls Trym.prog 20 #[.int .i64 r, .int .i64 n] w fun e w' => e = .returned (.tuple #[.int .i64 r, .bool false]) ∧ w = w' := by
  go_enter Trym.func20, Trym.ntmps20
  go_wp2
  go_ret2
  exact ⟨rfl, rfl⟩

set_option maxHeartbeats 800000 in
theorem selToAPI_some (b o : Nat) (s0 s1 s2 s3 s4 s5 s6 : ByteArray) (w : World) (c0 : w.cell? ⟨b, o, none⟩ = some (.string s0)) (c1 : w.cell? ⟨b, o + 1, none⟩ = some (.string s1)) (c2 : w.cell? ⟨b, o + 2, none⟩ = some (.string s2)) (c3 : w.cell? ⟨b, o + 3, none⟩ = some (.string s3)) (c4 : w.cell? ⟨b, o + 4, none⟩ = some (.string s4)) (c5 : w.cell? ⟨b, o + 5, none⟩ = some (.string s5)) (c6 : w.cell? ⟨b, o + 6, none⟩ = some (.string s6)) :
    Calls Trym.prog 25 #[.pointer (some ⟨b, o, none⟩)] w fun e w' => e = .returned (.pointer (some ⟨w.heap.size, 0, none⟩)) ∧ (w.alloc (.cells #[.string s0, .string s1, .string s2, .string s3, .string s4, .string s5, .string s6] 60)).drew = w' := by
  go_enter Trym.func25, Trym.ntmps25
  go_wp2_with fail
  go_region_held3 (fun w' => w'.cell? ⟨b, o, none⟩ = some (.string s0) ∧ w'.cell? ⟨b, o + 1, none⟩ = some (.string s1) ∧ w'.cell? ⟨b, o + 2, none⟩ = some (.string s2) ∧ w'.cell? ⟨b, o + 3, none⟩ = some (.string s3) ∧ w'.cell? ⟨b, o + 4, none⟩ = some (.string s4) ∧ w'.cell? ⟨b, o + 5, none⟩ = some (.string s5) ∧ w'.cell? ⟨b, o + 6, none⟩ = some (.string s6)) (go_keep) (fail)
  go_wp2
  go_ret
  exact ⟨rfl, rfl⟩

theorem selToAPI_none (w : World) : Calls Trym.prog 25 #[.pointer none] w fun e w' => e = .returned (.pointer none) ∧ w = w' := by
  go_enter Trym.func25, Trym.ntmps25
  go_wp2
  go_ret
  exact ⟨rfl, rfl⟩

theorem seven {p : Nat → Prop} (h0 : p 0) (h1 : p 1) (h2 : p 2) (h3 : p 3) (h4 : p 4) (h5 : p 5) (h6 : p 6) : ∀ t, t < 7 → p t := by
  intro t ht
  match t, ht with
  | 0, _ => exact h0
  | 1, _ => exact h1
  | 2, _ => exact h2
  | 3, _ => exact h3
  | 4, _ => exact h4
  | 5, _ => exact h5
  | 6, _ => exact h6

theorem selToAPI_calls (v : Value) (T : Tgt) (w : World) (z : ZT w v T) :
    Calls Trym.prog 25 #[v] w fun e w' => ∃ v', e = .returned v' ∧ TIn w' w.heap.size w'.heap.size v' T ∧ Below w.heap.size w w' := by
  cases T with
  | none =>
    obtain rfl : v = .pointer none := z
    exact (selToAPI_none w).mono fun e w' ⟨he, hw⟩ => ⟨_, he, rfl, by rw [← hw]; exact Below.refl _ _⟩
  | some f =>
    obtain ⟨b, o, rfl, hb, hc⟩ := z
    refine (selToAPI_some b o (f 0) (f 1) (f 2) (f 3) (f 4) (f 5) (f 6) w (hc 0 (by omega)).1 (hc 1 (by omega)).1 (hc 2 (by omega)).1 (hc 3 (by omega)).1 (hc 4 (by omega)).1 (hc 5 (by omega)).1 (hc 6 (by omega)).1).mono fun e w' ⟨he, hw⟩ => ⟨_, he, ?_, ?_⟩
    · subst hw
      refine ⟨w.heap.size, rfl, Nat.le_refl _, by simp, ?_, ?_⟩
      · exact seven (by simp) (by simp) (by simp) (by simp) (by simp) (by simp) (by simp)
      · exact seven (by simp [go_sem]) (by simp [go_sem]) (by simp [go_sem]) (by simp [go_sem]) (by simp [go_sem]) (by simp [go_sem]) (by simp [go_sem])
    · rw [← hw]
      exact ((Below.refl _ _).alloc (Nat.le_refl _) _).drew

set_option maxHeartbeats 800000 in
theorem sameSel_some (b o g : Nat) (s0 s1 s2 s3 s4 s5 s6 : ByteArray) (w : World) (c0 : w.cell? ⟨b, o, none⟩ = some (.string s0)) (c1 : w.cell? ⟨b, o + 1, none⟩ = some (.string s1)) (c2 : w.cell? ⟨b, o + 2, none⟩ = some (.string s2)) (c3 : w.cell? ⟨b, o + 3, none⟩ = some (.string s3)) (c4 : w.cell? ⟨b, o + 4, none⟩ = some (.string s4)) (c5 : w.cell? ⟨b, o + 5, none⟩ = some (.string s5)) (c6 : w.cell? ⟨b, o + 6, none⟩ = some (.string s6)) (d0 : w.cell? ⟨g, 0, none⟩ = some (.string s0)) (d1 : w.cell? ⟨g, 1, none⟩ = some (.string s1)) (d2 : w.cell? ⟨g, 2, none⟩ = some (.string s2)) (d3 : w.cell? ⟨g, 3, none⟩ = some (.string s3)) (d4 : w.cell? ⟨g, 4, none⟩ = some (.string s4)) (d5 : w.cell? ⟨g, 5, none⟩ = some (.string s5)) (d6 : w.cell? ⟨g, 6, none⟩ = some (.string s6)) :
    Calls Trym.prog 23 #[.pointer (some ⟨g, 0, none⟩), .pointer (some ⟨b, o, none⟩)] w fun e w' => e = .returned (.bool true) ∧ ∃ n, w' = w.drewN n := by
  go_enter Trym.func23, Trym.ntmps23
  go_wp2_with fail
  go_quiet (fail)
  go_wp2
  go_ret
  exact ⟨rfl, _, rfl⟩

theorem sameSel_none (w : World) : Calls Trym.prog 23 #[.pointer none, .pointer none] w fun e w' => e = .returned (.bool true) ∧ w = w' := by
  go_enter Trym.func23, Trym.ntmps23
  go_wp2
  go_ret
  exact ⟨rfl, rfl⟩

theorem sameSel_calls (v u : Value) (T : Tgt) (a c : Nat) (w : World) (x : TIn w a c u T) (z : ZT w v T) :
    Calls Trym.prog 23 #[u, v] w fun e w' => e = .returned (.bool true) ∧ ∃ n, w' = w.drewN n := by
  cases T with
  | none =>
    obtain rfl : v = .pointer none := z
    obtain rfl : u = .pointer none := x
    exact (sameSel_none w).mono fun e w' ⟨he, hw⟩ => ⟨he, 0, hw.symm⟩
  | some f =>
    obtain ⟨b, o, rfl, hb, hc⟩ := z
    obtain ⟨g, rfl, h1, h2, ho⟩ := x
    exact sameSel_some b o g (f 0) (f 1) (f 2) (f 3) (f 4) (f 5) (f 6) w (hc 0 (by omega)).1 (hc 1 (by omega)).1 (hc 2 (by omega)).1 (hc 3 (by omega)).1 (hc 4 (by omega)).1 (hc 5 (by omega)).1 (hc 6 (by omega)).1
      (ho.cell 0 (by omega)) (ho.cell 1 (by omega)) (ho.cell 2 (by omega)) (ho.cell 3 (by omega)) (ho.cell 4 (by omega)) (ho.cell 5 (by omega)) (ho.cell 6 (by omega))

set_option maxHeartbeats 1600000 in
theorem selBudget_some (b o : Nat) (s0 s1 s2 s3 s4 s5 s6 : ByteArray) (w : World) (c0 : w.cell? ⟨b, o, none⟩ = some (.string s0)) (c1 : w.cell? ⟨b, o + 1, none⟩ = some (.string s1)) (c2 : w.cell? ⟨b, o + 2, none⟩ = some (.string s2)) (c3 : w.cell? ⟨b, o + 3, none⟩ = some (.string s3)) (c4 : w.cell? ⟨b, o + 4, none⟩ = some (.string s4)) (c5 : w.cell? ⟨b, o + 5, none⟩ = some (.string s5)) (c6 : w.cell? ⟨b, o + 6, none⟩ = some (.string s6)) (r : Int) (r0 : 0 ≤ r) (r1 : r ≤ 1048576) :
    Calls Trym.prog 21 #[.pointer (some ⟨b, o, none⟩), .int .i64 r] w fun e w' => ∃ q ok, e = .returned (.tuple #[.int .i64 q, .bool ok]) ∧ w = w' ∧ (ok = true → 0 ≤ q ∧ q ≤ r ∧ s0.size ≤ 1048576 ∧ s1.size ≤ 1048576 ∧ s2.size ≤ 1048576 ∧ s3.size ≤ 1048576 ∧ s4.size ≤ 1048576 ∧ s5.size ≤ 1048576 ∧ s6.size ≤ 1048576) := by
  go_enter Trym.func21, Trym.ntmps21
  go_wp2_with fail
  by_cases h0 : (s0.size : Int) ≤ r
  case neg =>
    refine (take_no _ _ h0 _).mono ?_
    rintro e w' ⟨rfl, rfl⟩
    go_wp2
    go_ret2
    exact ⟨_, _, rfl, rfl, fun h => by cases h⟩
  refine (take_yes _ _ (by omega) h0 (by omega) _).mono ?_
  rintro e w' ⟨rfl, rfl⟩
  go_wp2_with fail
  by_cases h1 : (s1.size : Int) ≤ r - s0.size
  case neg =>
    refine (take_no _ _ h1 _).mono ?_
    rintro e w' ⟨rfl, rfl⟩
    go_wp2
    go_ret2
    exact ⟨_, _, rfl, rfl, fun h => by cases h⟩
  refine (take_yes _ _ (by omega) h1 (by omega) _).mono ?_
  rintro e w' ⟨rfl, rfl⟩
  go_wp2_with fail
  by_cases h2 : (s2.size : Int) ≤ r - s0.size - s1.size
  case neg =>
    refine (take_no _ _ h2 _).mono ?_
    rintro e w' ⟨rfl, rfl⟩
    go_wp2
    go_ret2
    exact ⟨_, _, rfl, rfl, fun h => by cases h⟩
  refine (take_yes _ _ (by omega) h2 (by omega) _).mono ?_
  rintro e w' ⟨rfl, rfl⟩
  go_wp2_with fail
  by_cases h3 : (s3.size : Int) ≤ r - s0.size - s1.size - s2.size
  case neg =>
    refine (take_no _ _ h3 _).mono ?_
    rintro e w' ⟨rfl, rfl⟩
    go_wp2
    go_ret2
    exact ⟨_, _, rfl, rfl, fun h => by cases h⟩
  refine (take_yes _ _ (by omega) h3 (by omega) _).mono ?_
  rintro e w' ⟨rfl, rfl⟩
  go_wp2_with fail
  by_cases h4 : (s4.size : Int) ≤ r - s0.size - s1.size - s2.size - s3.size
  case neg =>
    refine (take_no _ _ h4 _).mono ?_
    rintro e w' ⟨rfl, rfl⟩
    go_wp2
    go_ret2
    exact ⟨_, _, rfl, rfl, fun h => by cases h⟩
  refine (take_yes _ _ (by omega) h4 (by omega) _).mono ?_
  rintro e w' ⟨rfl, rfl⟩
  go_wp2_with fail
  by_cases h5 : (s5.size : Int) ≤ r - s0.size - s1.size - s2.size - s3.size - s4.size
  case neg =>
    refine (take_no _ _ h5 _).mono ?_
    rintro e w' ⟨rfl, rfl⟩
    go_wp2
    go_ret2
    exact ⟨_, _, rfl, rfl, fun h => by cases h⟩
  refine (take_yes _ _ (by omega) h5 (by omega) _).mono ?_
  rintro e w' ⟨rfl, rfl⟩
  go_wp2_with fail
  by_cases h6 : (s6.size : Int) ≤ r - s0.size - s1.size - s2.size - s3.size - s4.size - s5.size
  case neg =>
    refine (take_no _ _ h6 _).mono ?_
    rintro e w' ⟨rfl, rfl⟩
    go_wp2
    go_ret2
    exact ⟨_, _, rfl, rfl, fun h => by cases h⟩
  refine (take_yes _ _ (by omega) h6 (by omega) _).mono ?_
  rintro e w' ⟨rfl, rfl⟩
  go_wp2
  go_ret2
  exact ⟨_, _, rfl, rfl, fun _ => ⟨by omega, by omega, by omega, by omega, by omega, by omega, by omega, by omega, by omega⟩⟩

theorem selBudget_none (w : World) (r : Int) : Calls Trym.prog 21 #[.pointer none, .int .i64 r] w fun e w' => e = .returned (.tuple #[.int .i64 r, .bool true]) ∧ w = w' := by
  go_enter Trym.func21, Trym.ntmps21
  go_wp2
  go_ret2
  exact ⟨rfl, rfl⟩

theorem selBudget_calls (v : Value) (T : Tgt) (w : World) (z : ZT w v T) (r : Int) (r0 : 0 ≤ r) (r1 : r ≤ 1048576) :
    Calls Trym.prog 21 #[v, .int .i64 r] w fun e w' => ∃ q ok, e = .returned (.tuple #[.int .i64 q, .bool ok]) ∧ w = w' ∧ (ok = true → 0 ≤ q ∧ q ≤ r ∧ TgtB T) := by
  cases T with
  | none =>
    obtain rfl : v = .pointer none := z
    exact (selBudget_none w r).mono fun e w' ⟨he, hw⟩ => ⟨_, _, he, hw, fun _ => ⟨r0, Int.le_refl _, trivial⟩⟩
  | some f =>
    obtain ⟨b, o, rfl, hb, hc⟩ := z
    refine (selBudget_some b o (f 0) (f 1) (f 2) (f 3) (f 4) (f 5) (f 6) w (hc 0 (by omega)).1 (hc 1 (by omega)).1 (hc 2 (by omega)).1 (hc 3 (by omega)).1 (hc 4 (by omega)).1 (hc 5 (by omega)).1 (hc 6 (by omega)).1 r r0 r1).mono fun e w' ⟨q, ok, he, hw, h⟩ => ⟨q, ok, he, hw, fun hk => ?_⟩
    obtain ⟨h0, h1, k0, k1, k2, k3, k4, k5, k6⟩ := h hk
    exact ⟨h0, h1, seven k0 k1 k2 k3 k4 k5 k6⟩
end Go.Proofs.Qxb6608981aMods
