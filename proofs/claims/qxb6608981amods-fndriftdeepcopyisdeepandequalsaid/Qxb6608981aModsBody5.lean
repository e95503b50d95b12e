/-
  zzBytes OF THE LAW OF DEEPCOPY: one rule; the rules.
-/
import Derived.Test.Qxb6608981aModsStrs5
namespace Go.Proofs.Qxb6608981aMods.Abs5
open Go.RowKit Go.Proofs.Qxb6608981aMods.Abs

set_option maxHeartbeats 4000000 in
set_option maxRecDepth 4000 in
theorem body_d (b o n c b2 o2 k : Nat) (w : World) (ap : Option Addr) (np cp : Nat) (f : Nat → ByteArray) (yz : Option Addr) (Tk : Tgt) (hk : k < n) (c1 : w.cell? ⟨b, o + 1, none⟩ = some (.slice (some ⟨b2, o2, none⟩) n c)) (u0 : w.cell? ⟨b2, o2 + k * 2, none⟩ = some (.slice ap np cp)) (u1 : w.cell? ⟨b2, o2 + k * 2 + 1, none⟩ = some (.pointer yz)) (hnp : np ≤ 2 ^ 63 - 1)
    (HC : Hid (0 < np → ∃ b o, ap = some ⟨b, o, none⟩ ∧ ∀ j, j < np → w.cell? ⟨b, o + j, none⟩ = some (.string (f j)) ∧ (f j).size ≤ maxLen)) (HT : Hid (ZT w (.pointer yz) Tk))
    (Q : Exit → Act → World → Prop) (hret : Hid (∀ T' : Array Value, T'.getD 2 undef = .bool false → Q .ret ⟨T', []⟩ w)) (hend : Hid (∀ (T' : Array Value) (z' : Int) (jv : Value), 0 ≤ z' → z' ≤ 1048576 → Nm (.pointer (some ⟨b, o, none⟩)) (z') (.int .i64 (k : Int)) jv T' → Q .normal ⟨T', []⟩ w))
    (T : Array Value) (z : Int) (jv : Value) (z0 : 0 ≤ z) (z1 : z ≤ 1048576) (hN : Nm (.pointer (some ⟨b, o, none⟩)) (z) (.int .i64 (k : Int)) jv T) (cd : Code) (hcd : sub [1, 1, 0, 1, 2, 1, 1, 1, 1, 1, 1, 1, 4, 5, 1, 0, 4] Trym.f12.body = some cd) : cd.wp Trym.prog Q ⟨T, []⟩ w := by
  have x1 := get_far
  have x2 := get_same
  have x3 := size_set
  refine wp_of_some hcd rfl ?_
  clear hcd
  refine check (Nm (.pointer (some ⟨b, o, none⟩)) (z) (.int .i64 (k : Int)) jv) (decide ((1048576 : Int) < np)) (fun T' h => by rw [h.size]; decide) hret.out ?_ ?_
  · intro K Q' HK
    have hN' := hide hN
    obtain ⟨hs, h0, h3, h4, h5⟩ := hN
    go_wp2_with fail
    refine HK.out _ (hN'.out.keep ?_) ?_
    · repeat (refine Keep.set (by decide) ?_)
      exact Keep.refl _ _
    · exact get_same _ _ _ (by simp [hs])
  intro hc A0 hN
  have hnp1 : np ≤ 1048576 := by have := of_decide_eq_false hc; omega
  clear hc
  refine Abs.step (Nm (.pointer (some ⟨b, o, none⟩)) (z + (np : Int)) (.int .i64 (k : Int)) jv) ?_ ?_
  · intro K Q' HK
    have hN' := hide hN
    obtain ⟨hs, h0, h3, h4, h5⟩ := hN
    go_wp2_with fail
    refine HK.out _ (Nm.setZ (hN'.out.keep ?_) _)
    repeat (refine Keep.set (by decide) ?_)
    exact Keep.refl _ _
  intro A1 hN
  have z2 : 0 ≤ z + (np : Int) := by omega
  clear z0 z1
  generalize z + (np : Int) = z at *
  refine check (Nm (.pointer (some ⟨b, o, none⟩)) (z) (.int .i64 (k : Int)) jv) (decide ((1048576 : Int) < z)) (fun T' h => by rw [h.size]; decide) hret.out ?_ ?_
  · intro K Q' HK
    have hN' := hide hN
    obtain ⟨hs, h0, h3, h4, h5⟩ := hN
    go_wp2_with fail
    refine HK.out _ (hN'.out.keep ?_) ?_
    · repeat (refine Keep.set (by decide) ?_)
      exact Keep.refl _ _
    · exact get_same _ _ _ (by simp [hs])
  intro hcz A2 hN
  have z0 : 0 ≤ z := z2
  have z1 : z ≤ 1048576 := by have := of_decide_eq_false hcz; omega
  clear z2 hcz
  refine wp_seq_k fun Kr hKr => ?_
  have HKr := hide hKr
  clear hKr
  refine Abs.step (Nm (.pointer (some ⟨b, o, none⟩)) (z) (.int .i64 (k : Int)) (.int .i64 0)) ?_ ?_
  · intro K Q' HK
    have hN' := hide hN
    obtain ⟨hs, h0, h3, h4, h5⟩ := hN
    go_wp2_with fail
    refine HK.out _ (Nm.setJ (hN'.out.keep ?_) _)
    repeat (refine Keep.set (by decide) ?_)
    exact Keep.refl _ _
  intro A3 hN
  refine loop_for (i := 5) np (fun jj T => ∃ z, 0 ≤ z ∧ z ≤ 1048576 ∧ Nm (.pointer (some ⟨b, o, none⟩)) (z) (.int .i64 (k : Int)) (.int .i64 (jj : Int)) T) ⟨z, z0, z1, hN⟩ (fun jj T h => by obtain ⟨_, _, _, h⟩ := h; exact h.s5) ?_ ?_ ?_ ?_
  · clear z0 z1 hN
    rintro jj T1 hjj ⟨z, z0, z1, hN⟩ K Q' HK
    have hN' := hide hN
    obtain ⟨hs, h0, h3, h4, h5⟩ := hN
    go_wp2_with fail
    refine HK.out _ ⟨z, z0, z1, hN'.out.keep ?_⟩ ?_
    · repeat (refine Keep.set (by decide) ?_)
      exact Keep.refl _ _
    · refine (get_same _ _ _ (by simp [hs])).trans ?_
      simp
  · clear z0 z1 hN
    rintro jj T1 hjj ⟨z, z0, z1, hN⟩ Q' hnorm hret'
    have HN := hide hnorm
    have hret := hide (fun T' h => hret' ⟨T', []⟩ w (hret.out T' h))
    obtain ⟨pb, po, rfl, hcj⟩ := HC.out (by omega)
    obtain ⟨s0, s1⟩ := hcj jj hjj
    unfold maxLen at s1
    clear hcj HC HT hret' hnorm
    generalize f jj = sj at s0 s1
    refine check (Nm (.pointer (some ⟨b, o, none⟩)) (z) (.int .i64 (k : Int)) (.int .i64 (jj : Int))) (decide ((1048576 : Int) < sj.size)) (fun T' h => by rw [h.size]; decide) hret.out ?_ ?_
    · intro K Q' HK
      have hN' := hide hN
      obtain ⟨hs, h0, h3, h4, h5⟩ := hN
      go_wp2_with fail
      refine HK.out _ (hN'.out.keep ?_) ?_
      · repeat (refine Keep.set (by decide) ?_)
        exact Keep.refl _ _
      · exact get_same _ _ _ (by simp [hs])
    intro hc B0 hN
    have hc := of_decide_eq_false hc
    refine Abs.step (Nm (.pointer (some ⟨b, o, none⟩)) (z + (sj.size : Int)) (.int .i64 (k : Int)) (.int .i64 (jj : Int))) ?_ ?_
    · intro K Q' HK
      have hN' := hide hN
      obtain ⟨hs, h0, h3, h4, h5⟩ := hN
      go_wp2_with fail
      refine HK.out _ (Nm.setZ (hN'.out.keep ?_) _)
      repeat (refine Keep.set (by decide) ?_)
      exact Keep.refl _ _
    intro B1 hN
    have z2 : 0 ≤ z + (sj.size : Int) := by omega
    clear z0 z1
    generalize z + (sj.size : Int) = z at *
    refine check_of (Nm (.pointer (some ⟨b, o, none⟩)) (z) (.int .i64 (k : Int)) (.int .i64 (jj : Int))) (decide ((1048576 : Int) < z)) (fun T' h => by rw [h.size]; decide) hret.out ?_ ?_
    · intro K Q' HK
      have hN' := hide hN
      obtain ⟨hs, h0, h3, h4, h5⟩ := hN
      go_wp2_with fail
      refine HK.out _ (hN'.out.keep ?_) ?_
      · repeat (refine Keep.set (by decide) ?_)
        exact Keep.refl _ _
      · exact get_same _ _ _ (by simp [hs])
    intro hcz B2 hN
    have z0 : 0 ≤ z := z2
    have z1 : z ≤ 1048576 := by have := of_decide_eq_false hcz; omega
    clear z2 hcz
    exact HN.out _ ⟨z, z0, z1, hN⟩
  · clear z0 z1 hN
    rintro jj T1 hjj ⟨z, z0, z1, hN⟩ Q' HK
    have hN' := hide hN
    obtain ⟨hs, h0, h3, h4, h5⟩ := hN
    go_wp2_with fail
    refine HK.out _ ⟨z, z0, z1, ?_⟩
    have e : ((jj + 1 : Nat) : Int) = (jj : Int) + 1 := by omega
    rw [e]
    refine Nm.setJ (hN'.out.keep ?_) _
    repeat (refine Keep.set (by decide) ?_)
    exact Keep.refl _ _
  · clear z0 z1 hN
    rintro T1 ⟨z, z0, z1, hN⟩
    refine HKr.out _ _ ?_
    have hT := HT.out
    clear HC HT HKr
    cases Tk with
    | none =>
      obtain rfl : yz = none := by cases hT; rfl
      refine Abs.step (fun T' => Nm (.pointer (some ⟨b, o, none⟩)) (z) (.int .i64 (k : Int)) (.int .i64 (np : Int)) T' ∧ T'.getD 120 undef = .bool false) ?_ ?_
      · intro K Q' HK
        have hN' := hide hN
        obtain ⟨hs, h0, h3, h4, h5⟩ := hN
        go_wp2_with fail
        refine HK.out _ ⟨hN'.out.keep ?_, get_same _ _ _ (by simp [hs])⟩
        repeat (refine Keep.set (by decide) ?_)
        exact Keep.refl _ _
      · rintro T2 ⟨hN, ht⟩
        exact wp_cond_false ht (wp_skip (hend.out _ _ _ z0 z1 hN))
    | some tf =>
      obtain ⟨bt, ot, hv, -, hct⟩ := hT
      cases hv
      refine Abs.step (fun T' => Nm (.pointer (some ⟨b, o, none⟩)) (z) (.int .i64 (k : Int)) (.int .i64 (np : Int)) T' ∧ T'.getD 120 undef = .bool true) ?_ ?_
      · intro K Q' HK
        clear hct
        have hN' := hide hN
        obtain ⟨hs, h0, h3, h4, h5⟩ := hN
        go_wp2_with fail
        refine HK.out _ ⟨hN'.out.keep ?_, get_same _ _ _ (by simp [hs])⟩
        repeat (refine Keep.set (by decide) ?_)
        exact Keep.refl _ _
      · rintro T2 ⟨hN, ht⟩
        unfold maxLen at hct
        exact wp_cond_true ht (strs_d b o n c b2 o2 k bt ot w (tf 0) (tf 1) (tf 2) (tf 3) (tf 4) (tf 5) (tf 6) _ hk c1 u1 (hct 0 (by omega)).1 (hct 0 (by omega)).2 (hct 1 (by omega)).1 (hct 1 (by omega)).2 (hct 2 (by omega)).1 (hct 2 (by omega)).2 (hct 3 (by omega)).1 (hct 3 (by omega)).2 (hct 4 (by omega)).1 (hct 4 (by omega)).2 (hct 5 (by omega)).1 (hct 5 (by omega)).2 (hct 6 (by omega)).1 (hct 6 (by omega)).2 Q hret (hide fun T' z' h1 h2 h3 => hend.out T' z' _ h1 h2 h3) T2 z z0 z1 hN _ rfl)

set_option maxHeartbeats 4000000 in
set_option maxRecDepth 4000 in
theorem phase_d (b o : Nat) (md : ByteArray) (a : Option Addr) (n c : Nat) (P : Nat → Pth) (Tg : Nat → Tgt) (w : World) (hm : md.size ≤ 2 ^ 63 - 1) (hn : n ≤ 2 ^ 63 - 1) (c0 : w.cell? ⟨b, o, none⟩ = some (.string md)) (c1 : w.cell? ⟨b, o + 1, none⟩ = some (.slice a n c))
    (HZ : Hid (0 < n → ∃ (b o : Nat) (vP vT : Nat → Value), a = some ⟨b, o, none⟩ ∧ ∀ k, k < n → w.cell? ⟨b, o + k * 2, none⟩ = some (vP k) ∧ w.cell? ⟨b, o + k * 2 + 1, none⟩ = some (vT k) ∧ ZP w (vP k) (P k) ∧ ZT w (vT k) (Tg k)))
    (Q : Exit → Act → World → Prop) (hret : Hid (∀ T' : Array Value, T'.getD 2 undef = .bool false → Q .ret ⟨T', []⟩ w)) (hend : Hid (∀ (T' : Array Value) (z' : Int) (iv jv : Value), 0 ≤ z' → z' ≤ 1048576 → Nm (.pointer (some ⟨b, o, none⟩)) (z') iv jv T' → Q .normal ⟨T', []⟩ w))
    (T : Array Value) (z : Int) (iv jv : Value) (z0 : 0 ≤ z) (z1 : z ≤ 1048576) (hN : Nm (.pointer (some ⟨b, o, none⟩)) (z) iv jv T) (cd : Code) (hcd : sub [1, 1, 0, 1, 2] Trym.f12.body = some cd) : cd.wp Trym.prog Q ⟨T, []⟩ w := by
  have x1 := get_far
  have x2 := get_same
  have x3 := size_set
  refine wp_of_some hcd rfl ?_
  clear hcd
  refine check (Nm (.pointer (some ⟨b, o, none⟩)) (z) iv jv) (decide ((1048576 : Int) < md.size)) (fun T' h => by rw [h.size]; decide) hret.out ?_ ?_
  · intro K Q' HK
    have hN' := hide hN
    obtain ⟨hs, h0, h3, h4, h5⟩ := hN
    go_wp2_with fail
    refine HK.out _ (hN'.out.keep ?_) ?_
    · repeat (refine Keep.set (by decide) ?_)
      exact Keep.refl _ _
    · exact get_same _ _ _ (by simp [hs])
  intro hc A0 hN
  have hc := of_decide_eq_false hc
  refine Abs.step (Nm (.pointer (some ⟨b, o, none⟩)) (z + (md.size : Int)) iv jv) ?_ ?_
  · intro K Q' HK
    have hN' := hide hN
    obtain ⟨hs, h0, h3, h4, h5⟩ := hN
    go_wp2_with fail
    refine HK.out _ (Nm.setZ (hN'.out.keep ?_) _)
    repeat (refine Keep.set (by decide) ?_)
    exact Keep.refl _ _
  intro A1 hN
  have z2 : 0 ≤ z + (md.size : Int) := by omega
  clear z0 z1
  generalize z + (md.size : Int) = z at *
  clear hc
  refine check (Nm (.pointer (some ⟨b, o, none⟩)) (z) iv jv) (decide ((1048576 : Int) < z)) (fun T' h => by rw [h.size]; decide) hret.out ?_ ?_
  · intro K Q' HK
    have hN' := hide hN
    obtain ⟨hs, h0, h3, h4, h5⟩ := hN
    go_wp2_with fail
    refine HK.out _ (hN'.out.keep ?_) ?_
    · repeat (refine Keep.set (by decide) ?_)
      exact Keep.refl _ _
    · exact get_same _ _ _ (by simp [hs])
  intro hcz A2 hN
  have z0 : 0 ≤ z := z2
  have z1 : z ≤ 1048576 := by have := of_decide_eq_false hcz; omega
  clear z2 hcz
  refine check (Nm (.pointer (some ⟨b, o, none⟩)) (z) iv jv) (decide ((1048576 : Int) < n)) (fun T' h => by rw [h.size]; decide) hret.out ?_ ?_
  · intro K Q' HK
    have hN' := hide hN
    obtain ⟨hs, h0, h3, h4, h5⟩ := hN
    go_wp2_with fail
    refine HK.out _ (hN'.out.keep ?_) ?_
    · repeat (refine Keep.set (by decide) ?_)
      exact Keep.refl _ _
    · exact get_same _ _ _ (by simp [hs])
  intro hc A3 hN
  have hc := of_decide_eq_false hc
  refine Abs.step (Nm (.pointer (some ⟨b, o, none⟩)) (z + (n : Int)) iv jv) ?_ ?_
  · intro K Q' HK
    have hN' := hide hN
    obtain ⟨hs, h0, h3, h4, h5⟩ := hN
    go_wp2_with fail
    refine HK.out _ (Nm.setZ (hN'.out.keep ?_) _)
    repeat (refine Keep.set (by decide) ?_)
    exact Keep.refl _ _
  intro A4 hN
  have z2 : 0 ≤ z + (n : Int) := by omega
  clear z0 z1
  generalize z + (n : Int) = z at *
  clear hc
  refine check (Nm (.pointer (some ⟨b, o, none⟩)) (z) iv jv) (decide ((1048576 : Int) < z)) (fun T' h => by rw [h.size]; decide) hret.out ?_ ?_
  · intro K Q' HK
    have hN' := hide hN
    obtain ⟨hs, h0, h3, h4, h5⟩ := hN
    go_wp2_with fail
    refine HK.out _ (hN'.out.keep ?_) ?_
    · repeat (refine Keep.set (by decide) ?_)
      exact Keep.refl _ _
    · exact get_same _ _ _ (by simp [hs])
  intro hcz A5 hN
  have z0 : 0 ≤ z := z2
  have z1 : z ≤ 1048576 := by have := of_decide_eq_false hcz; omega
  clear z2 hcz
  refine Abs.step (Nm (.pointer (some ⟨b, o, none⟩)) (z) (.int .i64 0) jv) ?_ ?_
  · intro K Q' HK
    have hN' := hide hN
    obtain ⟨hs, h0, h3, h4, h5⟩ := hN
    go_wp2_with fail
    refine HK.out _ (Nm.setI (hN'.out.keep ?_) _)
    repeat (refine Keep.set (by decide) ?_)
    exact Keep.refl _ _
  intro A6 hN
  refine loop_for (i := 4) n (fun kk T => ∃ z jv, 0 ≤ z ∧ z ≤ 1048576 ∧ Nm (.pointer (some ⟨b, o, none⟩)) (z) (.int .i64 (kk : Int)) jv T) ⟨z, jv, z0, z1, hN⟩ (fun kk T h => by obtain ⟨_, _, _, _, h⟩ := h; exact h.s4) ?_ ?_ ?_ ?_
  · clear z0 z1 hN
    rintro kk T1 hkk ⟨z, jv, z0, z1, hN⟩ K Q' HK
    have hN' := hide hN
    obtain ⟨hs, h0, h3, h4, h5⟩ := hN
    go_wp2_with fail
    refine HK.out _ ⟨z, jv, z0, z1, hN'.out.keep ?_⟩ ?_
    · repeat (refine Keep.set (by decide) ?_)
      exact Keep.refl _ _
    · refine (get_same _ _ _ (by simp [hs])).trans ?_
      simp
  · clear z0 z1 hN
    rintro kk T1 hkk ⟨z, jv, z0, z1, hN⟩ Q' hnorm hret'
    obtain ⟨b2, o2, vP, vT, rfl, hzk⟩ := HZ.out (by omega)
    obtain ⟨u0, u1, zP, zT⟩ := hzk kk hkk
    obtain ⟨ap, np, cp, f, hvP, hnp, hcells, -⟩ := in_paths zP
    obtain ⟨yz, hyz⟩ := zT.form
    rw [hvP] at u0
    rw [hyz] at u1 zT
    unfold maxLen at hnp
    exact body_d b o n c b2 o2 kk w ap np cp f yz (Tg kk) hkk c1 u0 u1 hnp (hide hcells) (hide zT) Q' (hide fun T' h => hret' ⟨T', []⟩ w (hret.out T' h)) (hide fun T' z' jv' h1 h2 h3 => hnorm T' ⟨z', jv', h1, h2, h3⟩) T1 z jv z0 z1 hN _ rfl
  · clear z0 z1 hN
    rintro kk T1 hkk ⟨z, jv, z0, z1, hN⟩ Q' HK
    have hN' := hide hN
    obtain ⟨hs, h0, h3, h4, h5⟩ := hN
    go_wp2_with fail
    refine HK.out _ ⟨z, jv, z0, z1, ?_⟩
    have e : ((kk + 1 : Nat) : Int) = (kk : Int) + 1 := by omega
    rw [e]
    refine Nm.setI (hN'.out.keep ?_) _
    repeat (refine Keep.set (by decide) ?_)
    exact Keep.refl _ _
  · rintro T1 ⟨z, jv, z0, z1, hN⟩
    exact hend.out _ _ _ _ z0 z1 hN
end Go.Proofs.Qxb6608981aMods.Abs5
