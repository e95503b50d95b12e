/-
  CONTRACTS of zzDriftBudget and of the two zzBytes.
-/
import Derived.Test.Qxb6608981aModsSame
namespace Go.Proofs.Qxb6608981aMods
open Go.RowKit

/-- A row of strings that came in, nil or not. -/
theorem in_paths {w : World} {u : Value} {P : Pth} (z : ZP w u P) :
    ∃ (a : Option Addr) (n c : Nat) (f : Nat → ByteArray), u = .slice a n c ∧ n ≤ maxLen ∧
      (0 < n → ∃ b o, a = some ⟨b, o, none⟩ ∧ ∀ j, j < n → w.cell? ⟨b, o + j, none⟩ = some (.string (f j)) ∧ (f j).size ≤ maxLen) ∧ (n ≤ 1048576 → (∀ j, j < n → (f j).size ≤ 1048576) → PthB P) := by
  cases P with
  | none =>
    obtain rfl : u = .slice none 0 0 := z
    exact ⟨none, 0, 0, fun _ => ByteArray.empty, rfl, Nat.zero_le _, fun h => absurd h (Nat.lt_irrefl _), fun _ _ => trivial⟩
  | some p =>
    obtain ⟨n, f⟩ := p
    obtain ⟨a, c, rfl, hn, hz⟩ := z
    refine ⟨_, n, c, f, rfl, hn, fun hp => ?_, fun h1 h2 => ⟨h1, h2⟩⟩
    obtain ⟨b, o, ha, _, hc⟩ := hz hp
    exact ⟨b, o, by rw [ha], hc⟩
/-- A row of rules that came in, nil or not. -/
theorem in_rules {w : World} {u : Value} {ig : Igs} (z : ZI w u ig) :
    ∃ (a : Option Addr) (n c : Nat) (P : Nat → Pth) (T : Nat → Tgt), u = .slice a n c ∧ n ≤ maxLen ∧
      (0 < n → ∃ (b o : Nat) (vP vT : Nat → Value), a = some ⟨b, o, none⟩ ∧ ∀ k, k < n → w.cell? ⟨b, o + k * 2, none⟩ = some (vP k) ∧ w.cell? ⟨b, o + k * 2 + 1, none⟩ = some (vT k) ∧ ZP w (vP k) (P k) ∧ ZT w (vT k) (T k)) ∧
      (n ≤ 1048576 → (∀ k, k < n → PthB (P k) ∧ TgtB (T k)) → IgsB ig) := by
  cases ig with
  | none =>
    obtain rfl : u = .slice none 0 0 := z
    exact ⟨none, 0, 0, fun _ => none, fun _ => none, rfl, Nat.zero_le _, fun h => absurd h (Nat.lt_irrefl _), fun _ _ => trivial⟩
  | some p =>
    obtain ⟨n, P, T⟩ := p
    obtain ⟨a, c, rfl, hn, hz⟩ := z
    refine ⟨_, n, c, P, T, rfl, hn, fun hp => ?_, fun h1 h2 => ⟨h1, h2⟩⟩
    obtain ⟨b, o, vP, vT, ha, _, hc⟩ := hz hp
    exact ⟨b, o, vP, vT, by rw [ha], hc⟩

theorem budget_nil (w : World) (r : Int) : Calls Trym.prog 13 #[.pointer none, .int .i64 r] w fun e w' => e = .returned (.tuple #[.int .i64 r, .bool true]) ∧ w = w' := by
  go_enter Trym.func13, Trym.ntmps13
  go_wp2
  go_ret2
  exact ⟨rfl, rfl⟩

set_option maxHeartbeats 3200000 in
set_option maxRecDepth 4000 in
theorem budget_any (b o : Nat) (md : ByteArray) (a : Option Addr) (n c : Nat) (P : Nat → Pth) (T : Nat → Tgt) (w : World) (hm : md.size ≤ maxLen) (hn : n ≤ maxLen) (r : Int) (r0 : 0 ≤ r) (r1 : r ≤ 1048576) (c0 : w.cell? ⟨b, o, none⟩ = some (.string md)) (c1 : w.cell? ⟨b, o + 1, none⟩ = some (.slice a n c))
    (hz : 0 < n → ∃ (b o : Nat) (vP vT : Nat → Value), a = some ⟨b, o, none⟩ ∧ ∀ k, k < n → w.cell? ⟨b, o + k * 2, none⟩ = some (vP k) ∧ w.cell? ⟨b, o + k * 2 + 1, none⟩ = some (vT k) ∧ ZP w (vP k) (P k) ∧ ZT w (vT k) (T k)) :
    Calls Trym.prog 13 #[.pointer (some ⟨b, o, none⟩), .int .i64 r] w fun e w' => ∃ q ok, e = .returned (.tuple #[.int .i64 q, .bool ok]) ∧ w = w' ∧ (ok = true → 0 ≤ q ∧ q ≤ r ∧ md.size ≤ 1048576 ∧ n ≤ 1048576 ∧ ∀ k, k < n → PthB (P k) ∧ TgtB (T k)) := by
  unfold maxLen at hm hn
  go_enter Trym.func13, Trym.ntmps13
  go_wp2_with fail
  by_cases h0 : (md.size : Int) ≤ r
  case neg =>
    refine (take_no _ _ h0 _).mono ?_
    rintro e w' ⟨rfl, rfl⟩
    go_wp2
    go_ret2
    exact ⟨_, _, rfl, rfl, fun h => by cases h⟩
  refine (take_yes _ _ (by omega) h0 (by omega) _).mono ?_
  rintro e w' ⟨rfl, rfl⟩
  by_cases h1 : (n : Int) ≤ (r - md.size) / 32
  case neg =>
    go_wp2
    go_ret2
    exact ⟨_, _, rfl, rfl, fun h => by cases h⟩
  go_wp2_with fail
  have hr2 : 0 ≤ r - md.size - n * 32 := by omega
  have hr3 : r - md.size - n * 32 ≤ r := by omega
  have hm2 : Hid (md.size ≤ 1048576) := hide (by omega)
  have hn3 : Hid (n ≤ 1048576) := hide (by omega)
  clear c0
  generalize hR : r - md.size - n * 32 = R at *
  clear hR h1 h0
  go_loopw [1, 7] (fun v i wr => ∃ (q : Int) (k : Nat), k ≤ n ∧ 0 ≤ q ∧ q ≤ r ∧ v = .int .i64 q ∧ i = .int .i64 k ∧ Hid (∀ t, t < k → PthB (P t) ∧ TgtB (T t)) ∧ w = wr) (fun _ i _ => n - (intOf i).toNat)
  case atStart => exact ⟨_, 0, Nat.zero_le _, hr2, hr3, rfl, rfl, fun t ht => absurd ht (Nat.not_lt_zero _), rfl⟩
  case round =>
  obtain ⟨q, k, hk, q0, q1, rfl, rfl, HB, rfl⟩ := hrel
  by_cases hin : k < n
  case neg =>
    obtain rfl : k = n := by omega
    go_wp2_with fail
    go_ret2
    exact ⟨_, _, rfl, rfl, fun _ => ⟨q0, q1, hm2.out, hn3.out, HB.out⟩⟩
  obtain ⟨b2, o2, vP, vT, rfl, hzk⟩ := hz (by omega)
  obtain ⟨u0, u1, zP, zT⟩ := hzk k hin
  obtain ⟨ap, np, cp, f, hvP, hnp, hcells, hPB⟩ := in_paths zP
  obtain ⟨yz, hyz⟩ := zT.form
  rw [hvP] at u0
  rw [hyz] at u1 zT
  have HT := hide zT
  have HC := hide hcells
  have HPB := hide hPB
  unfold maxLen at hnp
  clear hz hzk zP zT hvP hyz hcells hPB
  by_cases h1 : (np : Int) ≤ q / 16
  case neg =>
    clear HB HT HC HPB
    go_wp2_with fail
    go_ret2
    first
      | exact ⟨_, _, rfl, rfl, fun h => by cases h⟩
      | exact ⟨_, .inl ⟨rfl, rfl⟩⟩
      | exact ⟨_, .inl rfl⟩
  go_wp2_with fail
  have hq2 : 0 ≤ q - np * 16 := by omega
  have hq3 : q - np * 16 ≤ r := by omega
  have hnp3 : np ≤ 1048576 := by omega
  generalize hR : q - np * 16 = R2 at *
  clear hR h1
  go_loopw [1, 9] (fun v i wr => ∃ (q : Int) (j : Nat), j ≤ np ∧ 0 ≤ q ∧ q ≤ r ∧ v = .int .i64 q ∧ i = .int .i64 j ∧ Hid (∀ t, t < j → (f t).size ≤ 1048576) ∧ w = wr) (fun _ i _ => np - (intOf i).toNat)
  case atStart => exact ⟨_, 0, Nat.zero_le _, hq2, hq3, rfl, rfl, fun t ht => absurd ht (Nat.not_lt_zero _), rfl⟩
  case round =>
  obtain ⟨p, j, hj, p0, p1, rfl, rfl, HJ, rfl⟩ := hrel
  by_cases hjn : j < np
  case neg =>
    obtain rfl : j = np := by omega
    have HP2 := hide (HPB.out hnp3 HJ.out)
    clear HPB HJ HC
    go_wp2_with fail
    refine (selBudget_calls _ (T k) w HT.out p p0 (by omega)).mono ?_
    rintro e w' ⟨p', ok, rfl, rfl, hok⟩
    cases ok with
    | false =>
      go_wp2
      go_ret2
      exact ⟨_, _, rfl, rfl, fun h => by cases h⟩
    | true =>
      obtain ⟨p2, p3, hTB⟩ := hok rfl
      have HTB := hide hTB
      clear hok hTB HT
      go_wp2
      go_roundw
      case rel =>
        refine ⟨p', k + 1, by omega, p2, by omega, rfl, by go_num, fun t ht => ?_, trivial⟩
        by_cases e : t = k
        · rw [e]; exact ⟨HP2.out, HTB.out⟩
        · exact HB.out t (by omega)
      case measure => simp [intOf]; omega
  obtain ⟨bp, op, rfl, hcj⟩ := HC.out (by omega)
  obtain ⟨s0, s1⟩ := hcj j hjn
  unfold maxLen at s1
  clear hcj
  have HFJ : Hid ((f j).size ≤ 1048576 → ∀ t, t < j + 1 → (f t).size ≤ 1048576) := fun h t ht => by
    by_cases e : t = j
    · rw [e]; exact h
    · exact HJ.out t (by omega)
  generalize f j = sj at s0 s1 HFJ
  clear HJ
  go_wp2_with fail
  by_cases h0 : (sj.size : Int) ≤ p
  case neg =>
    refine (take_no _ _ h0 _).mono ?_
    rintro e w' ⟨rfl, rfl⟩
    go_wp2
    go_ret2
    exact ⟨_, _, rfl, rfl, fun h => by cases h⟩
  refine (take_yes _ _ (by omega) h0 (by omega) _).mono ?_
  rintro e w' ⟨rfl, rfl⟩
  go_wp2
  go_roundw
  case rel => exact ⟨_, j + 1, by omega, by omega, by omega, rfl, by go_num, HFJ.out (by omega), trivial⟩
  case measure => simp [intOf]; omega

/-- ZZDRIFTBUDGET. -/
theorem budget_calls (b o : Nat) (md : ByteArray) (ig : Igs) (w : World) (z : ZD w b o md ig) (r : Int) (r0 : 0 ≤ r) (r1 : r ≤ 1048576) :
    Calls Trym.prog 13 #[.pointer (some ⟨b, o, none⟩), .int .i64 r] w fun e w' => ∃ q ok, e = .returned (.tuple #[.int .i64 q, .bool ok]) ∧ w = w' ∧ (ok = true → 0 ≤ q ∧ q ≤ r ∧ md.size ≤ 1048576 ∧ IgsB ig) := by
  obtain ⟨-, hm, c0, u, c1, hz⟩ := z
  obtain ⟨a, n, c, P, T, rfl, hn, hk, hB⟩ := in_rules hz
  exact (budget_any b o md a n c P T w hm hn r r0 r1 c0 c1 hk).mono fun e w' ⟨q, ok, he, hw, h⟩ => ⟨q, ok, he, hw, fun h' => ⟨(h h').1, (h h').2.1, (h h').2.2.1, hB (h h').2.2.2.1 (h h').2.2.2.2⟩⟩
end Go.Proofs.Qxb6608981aMods
