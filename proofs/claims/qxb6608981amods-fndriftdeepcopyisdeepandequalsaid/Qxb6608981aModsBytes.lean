/-
  CONTRACT of zzBytes (of the law of DeepCopy): it answers, and changes nothing.
-/
import Derived.Test.Qxb6608981aModsAns
namespace Go.Proofs.Qxb6608981aMods
open Go.RowKit

set_option maxHeartbeats 40000000 in
set_option maxRecDepth 100000 in
theorem bytes5_ni (w : World) : Calls Trym.prog 12 #[.pointer none] w (Ans w) := by
  go_enter Trym.func12, Trym.ntmps12
  go_wp2_with fail
  go_ret
  exact ans _ _

set_option maxHeartbeats 40000000 in
set_option maxRecDepth 100000 in
theorem bytes5_any (b o : Nat) (md : ByteArray) (a : Option Addr) (n c : Nat) (P : Nat → Pth) (T : Nat → Tgt) (w : World) (hm : md.size ≤ maxLen) (hn : n ≤ maxLen) (c0 : w.cell? ⟨b, o, none⟩ = some (.string md)) (c1 : w.cell? ⟨b, o + 1, none⟩ = some (.slice a n c)) (HZ : Hid (0 < n → ∃ (b o : Nat) (vP vT : Nat → Value), a = some ⟨b, o, none⟩ ∧ ∀ k, k < n → w.cell? ⟨b, o + k * 2, none⟩ = some (vP k) ∧ w.cell? ⟨b, o + k * 2 + 1, none⟩ = some (vT k) ∧ ZP w (vP k) (P k) ∧ ZT w (vT k) (T k))) : Calls Trym.prog 12 #[.pointer (some ⟨b, o, none⟩)] w (Ans w) := by
  unfold maxLen at hm hn
  go_enter Trym.func12, Trym.ntmps12
  (go_wp2_with fail) <;> first | (go_ret; exact ans _ _) | skip
  have hr2 : (0 : Int) ≤ (md.size : Int) + n := by omega
  have hr3 : (md.size : Int) + n ≤ 1048576 := by omega
  generalize (md.size : Int) + n = R at *
  go_loopw [3, 4] (fun v i wr => ∃ (q : Int) (k : Nat), k ≤ n ∧ 0 ≤ q ∧ q ≤ 1048576 ∧ v = .int .i64 q ∧ i = .int .i64 k ∧ w = wr) (fun _ i _ => n - (intOf i).toNat)
  case atStart => exact ⟨_, 0, Nat.zero_le _, hr2, hr3, rfl, rfl, rfl⟩
  case round =>
  clear hr2 hr3
  obtain ⟨q, k, hk, q0, q1, rfl, rfl, rfl⟩ := hrel
  by_cases hin : k < n
  case neg =>
    obtain rfl : k = n := by omega
    go_wp2_with fail
    go_ret
    exact ans _ _
  obtain ⟨b2, o2, vP, vT, rfl, hzk⟩ := HZ.out (by omega)
  obtain ⟨u0, u1, zP, zT⟩ := hzk k hin
  obtain ⟨ap, np, cp, f, hvP, hnp, hcells, hPB⟩ := in_paths zP
  obtain ⟨yz, hyz⟩ := zT.form
  rw [hvP] at u0
  rw [hyz] at u1 zT
  have HT := hide zT
  have HC := hide hcells
  unfold maxLen at hnp
  clear HZ hzk zP zT hvP hyz hcells hPB
  (go_wp2_with fail) <;> first | (go_ret; exact ans _ _) | skip
  have hr2 : (0 : Int) ≤ q + np := by omega
  have hr3 : q + (np : Int) ≤ 1048576 := by omega
  generalize q + (np : Int) = R2 at *
  go_loopw [3, 5] (fun v i wr => ∃ (q : Int) (j : Nat), j ≤ np ∧ 0 ≤ q ∧ q ≤ 1048576 ∧ v = .int .i64 q ∧ i = .int .i64 j ∧ w = wr) (fun _ i _ => np - (intOf i).toNat)
  case atStart => exact ⟨_, 0, Nat.zero_le _, hr2, hr3, rfl, rfl, rfl⟩
  case round =>
  clear hr2 hr3
  obtain ⟨p, j, hj, p0, p1, rfl, rfl, rfl⟩ := hrel
  by_cases hjn : j < np
  case pos =>
    obtain ⟨bp, op, rfl, hcj⟩ := HC.out (by omega)
    obtain ⟨s0, s1⟩ := hcj j hjn
    unfold maxLen at s1
    clear hcj HC HT
    generalize f j = sj at s0 s1
    (go_wp2_with fail) <;> first | (go_ret; exact ans _ _) | skip
    go_roundw
    case rel => exact ⟨_, j + 1, by omega, by omega, by omega, rfl, by go_num, by first | rfl | trivial⟩
    case measure => simp [intOf]; omega
  obtain rfl : j = np := by omega
  clear HC
  have hT := HT.out
  cases hTk : T k with
  | none =>
    rw [hTk] at hT
    obtain rfl : yz = none := by cases hT; rfl
    clear hT HT
    go_wp2_with fail
    (try refine then_normal ?_)
    go_roundw
    case rel => exact ⟨_, k + 1, by omega, by omega, by omega, rfl, by go_num, by first | rfl | trivial⟩
    case measure => simp [intOf]; omega
  | some g =>
    rw [hTk] at hT
    obtain ⟨bt, ot, hv, -, hct⟩ := hT
    cases hv
    obtain ⟨t0, l0⟩ := hct 0 (by omega)
    obtain ⟨t1, l1⟩ := hct 1 (by omega)
    obtain ⟨t2, l2⟩ := hct 2 (by omega)
    obtain ⟨t3, l3⟩ := hct 3 (by omega)
    obtain ⟨t4, l4⟩ := hct 4 (by omega)
    obtain ⟨t5, l5⟩ := hct 5 (by omega)
    obtain ⟨t6, l6⟩ := hct 6 (by omega)
    clear hct HT hTk
    unfold maxLen at l0 l1 l2 l3 l4 l5 l6
    simp only [Nat.add_zero] at t0
    generalize g 0 = s0 at *
    generalize g 1 = s1 at *
    generalize g 2 = s2 at *
    generalize g 3 = s3 at *
    generalize g 4 = s4 at *
    generalize g 5 = s5 at *
    generalize g 6 = s6 at *
    (go_wp2_with fail) <;> first | (go_ret; exact ans _ _) | skip
    (try refine then_normal ?_)
    go_roundw
    case rel => exact ⟨_, k + 1, by omega, by omega, by omega, rfl, by go_num, by first | rfl | trivial⟩
    case measure => simp [intOf]; omega

theorem bytes5_nil (w : World) : Calls Trym.prog 12 #[.pointer none] w fun e w' => ∃ x, e = .returned (.bool x) ∧ w = w' := bytes5_ni w
theorem bytes5_calls (b o : Nat) (md : ByteArray) (ig : Igs) (w : World) (z : ZD w b o md ig) : Calls Trym.prog 12 #[.pointer (some ⟨b, o, none⟩)] w fun e w' => ∃ x, e = .returned (.bool x) ∧ w = w' := by
  obtain ⟨-, hm, c0, u, c1, hz⟩ := z
  obtain ⟨a, n, c, P, T, rfl, hn, hk, -⟩ := in_rules hz
  exact bytes5_any b o md a n c P T w hm hn c0 c1 (hide hk)
end Go.Proofs.Qxb6608981aMods
