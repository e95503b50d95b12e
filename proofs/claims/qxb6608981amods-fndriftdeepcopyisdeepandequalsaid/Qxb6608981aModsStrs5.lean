/-
  zzBytes OF THE LAW OF DEEPCOPY: a target's seven strings.
-/
import Derived.Test.Qxb6608981aModsSlots5
namespace Go.Proofs.Qxb6608981aMods.Abs5
open Go.RowKit Go.Proofs.Qxb6608981aMods.Abs

set_option maxHeartbeats 4000000 in
set_option maxRecDepth 4000 in
theorem strs_d (b o n c b2 o2 k bt ot : Nat) (w : World) (s0 s1 s2 s3 s4 s5 s6 : ByteArray) (jv : Value) (hk : k < n) (c1 : w.cell? ⟨b, o + 1, none⟩ = some (.slice (some ⟨b2, o2, none⟩) n c)) (u1 : w.cell? ⟨b2, o2 + k * 2 + 1, none⟩ = some (.pointer (some ⟨bt, ot, none⟩)))
    (t0 : w.cell? ⟨bt, ot, none⟩ = some (.string s0)) (l0 : s0.size ≤ 2 ^ 63 - 1)
    (t1 : w.cell? ⟨bt, ot + 1, none⟩ = some (.string s1)) (l1 : s1.size ≤ 2 ^ 63 - 1)
    (t2 : w.cell? ⟨bt, ot + 2, none⟩ = some (.string s2)) (l2 : s2.size ≤ 2 ^ 63 - 1)
    (t3 : w.cell? ⟨bt, ot + 3, none⟩ = some (.string s3)) (l3 : s3.size ≤ 2 ^ 63 - 1)
    (t4 : w.cell? ⟨bt, ot + 4, none⟩ = some (.string s4)) (l4 : s4.size ≤ 2 ^ 63 - 1)
    (t5 : w.cell? ⟨bt, ot + 5, none⟩ = some (.string s5)) (l5 : s5.size ≤ 2 ^ 63 - 1)
    (t6 : w.cell? ⟨bt, ot + 6, none⟩ = some (.string s6)) (l6 : s6.size ≤ 2 ^ 63 - 1)
    (Q : Exit → Act → World → Prop) (hret : Hid (∀ T' : Array Value, T'.getD 2 undef = .bool false → Q .ret ⟨T', []⟩ w)) (hend : Hid (∀ (T' : Array Value) (z' : Int), 0 ≤ z' → z' ≤ 1048576 → Nm (.pointer (some ⟨b, o, none⟩)) (z') (.int .i64 (k : Int)) jv T' → Q .normal ⟨T', []⟩ w))
    (T : Array Value) (z : Int) (z0 : 0 ≤ z) (z1 : z ≤ 1048576) (hN : Nm (.pointer (some ⟨b, o, none⟩)) (z) (.int .i64 (k : Int)) jv T) (cd : Code) (hcd : sub [1, 1, 0, 1, 2, 1, 1, 1, 1, 1, 1, 1, 4, 5, 1, 0, 4, 1, 1, 1, 1, 1, 2] Trym.f12.body = some cd) : cd.wp Trym.prog Q ⟨T, []⟩ w := by
  have x1 := get_far
  have x2 := get_same
  have x3 := size_set
  refine wp_of_some hcd rfl ?_
  clear hcd
  refine check (Nm (.pointer (some ⟨b, o, none⟩)) (z) (.int .i64 (k : Int)) jv) (decide ((1048576 : Int) < s0.size)) (fun T' h => by rw [h.size]; decide) hret.out ?_ ?_
  · intro K Q' HK
    have hN' := hide hN
    obtain ⟨hs, h0, h3, h4, h5⟩ := hN
    go_wp2_with fail
    refine HK.out _ (hN'.out.keep ?_) ?_
    · repeat (refine Keep.set (by decide) ?_)
      exact Keep.refl _ _
    · exact get_same _ _ _ (by simp [hs])
  intro hc A0 hN
  have hc := of_decide_eq_false hc
  refine Abs.step (Nm (.pointer (some ⟨b, o, none⟩)) (z + s0.size) (.int .i64 (k : Int)) jv) ?_ ?_
  · intro K Q' HK
    have hN' := hide hN
    obtain ⟨hs, h0, h3, h4, h5⟩ := hN
    go_wp2_with fail
    refine HK.out _ (Nm.setZ (hN'.out.keep ?_) _)
    repeat (refine Keep.set (by decide) ?_)
    exact Keep.refl _ _
  intro B0 hN
  have z2 : 0 ≤ z + s0.size := by omega
  clear z0 z1
  generalize z + (s0.size : Int) = z at *
  refine check (Nm (.pointer (some ⟨b, o, none⟩)) (z) (.int .i64 (k : Int)) jv) (decide ((1048576 : Int) < z)) (fun T' h => by rw [h.size]; decide) hret.out ?_ ?_
  · intro K Q' HK
    have hN' := hide hN
    obtain ⟨hs, h0, h3, h4, h5⟩ := hN
    go_wp2_with fail
    refine HK.out _ (hN'.out.keep ?_) ?_
    · repeat (refine Keep.set (by decide) ?_)
      exact Keep.refl _ _
    · exact get_same _ _ _ (by simp [hs])
  intro hc0 C0 hN
  have z0 : 0 ≤ z := z2
  have z1 : z ≤ 1048576 := by have := of_decide_eq_false hc0; omega
  clear z2 hc0 hc
  refine check (Nm (.pointer (some ⟨b, o, none⟩)) (z) (.int .i64 (k : Int)) jv) (decide ((1048576 : Int) < s1.size)) (fun T' h => by rw [h.size]; decide) hret.out ?_ ?_
  · intro K Q' HK
    have hN' := hide hN
    obtain ⟨hs, h0, h3, h4, h5⟩ := hN
    go_wp2_with fail
    refine HK.out _ (hN'.out.keep ?_) ?_
    · repeat (refine Keep.set (by decide) ?_)
      exact Keep.refl _ _
    · exact get_same _ _ _ (by simp [hs])
  intro hc A1 hN
  have hc := of_decide_eq_false hc
  refine Abs.step (Nm (.pointer (some ⟨b, o, none⟩)) (z + s1.size) (.int .i64 (k : Int)) jv) ?_ ?_
  · intro K Q' HK
    have hN' := hide hN
    obtain ⟨hs, h0, h3, h4, h5⟩ := hN
    go_wp2_with fail
    refine HK.out _ (Nm.setZ (hN'.out.keep ?_) _)
    repeat (refine Keep.set (by decide) ?_)
    exact Keep.refl _ _
  intro B1 hN
  have z2 : 0 ≤ z + s1.size := by omega
  clear z0 z1
  generalize z + (s1.size : Int) = z at *
  refine check (Nm (.pointer (some ⟨b, o, none⟩)) (z) (.int .i64 (k : Int)) jv) (decide ((1048576 : Int) < z)) (fun T' h => by rw [h.size]; decide) hret.out ?_ ?_
  · intro K Q' HK
    have hN' := hide hN
    obtain ⟨hs, h0, h3, h4, h5⟩ := hN
    go_wp2_with fail
    refine HK.out _ (hN'.out.keep ?_) ?_
    · repeat (refine Keep.set (by decide) ?_)
      exact Keep.refl _ _
    · exact get_same _ _ _ (by simp [hs])
  intro hc1 C1 hN
  have z0 : 0 ≤ z := z2
  have z1 : z ≤ 1048576 := by have := of_decide_eq_false hc1; omega
  clear z2 hc1 hc
  refine check (Nm (.pointer (some ⟨b, o, none⟩)) (z) (.int .i64 (k : Int)) jv) (decide ((1048576 : Int) < s2.size)) (fun T' h => by rw [h.size]; decide) hret.out ?_ ?_
  · intro K Q' HK
    have hN' := hide hN
    obtain ⟨hs, h0, h3, h4, h5⟩ := hN
    go_wp2_with fail
    refine HK.out _ (hN'.out.keep ?_) ?_
    · repeat (refine Keep.set (by decide) ?_)
      exact Keep.refl _ _
    · exact get_same _ _ _ (by simp [hs])
  intro hc A2 hN
  have hc := of_decide_eq_false hc
  refine Abs.step (Nm (.pointer (some ⟨b, o, none⟩)) (z + s2.size) (.int .i64 (k : Int)) jv) ?_ ?_
  · intro K Q' HK
    have hN' := hide hN
    obtain ⟨hs, h0, h3, h4, h5⟩ := hN
    go_wp2_with fail
    refine HK.out _ (Nm.setZ (hN'.out.keep ?_) _)
    repeat (refine Keep.set (by decide) ?_)
    exact Keep.refl _ _
  intro B2 hN
  have z2 : 0 ≤ z + s2.size := by omega
  clear z0 z1
  generalize z + (s2.size : Int) = z at *
  refine check (Nm (.pointer (some ⟨b, o, none⟩)) (z) (.int .i64 (k : Int)) jv) (decide ((1048576 : Int) < z)) (fun T' h => by rw [h.size]; decide) hret.out ?_ ?_
  · intro K Q' HK
    have hN' := hide hN
    obtain ⟨hs, h0, h3, h4, h5⟩ := hN
    go_wp2_with fail
    refine HK.out _ (hN'.out.keep ?_) ?_
    · repeat (refine Keep.set (by decide) ?_)
      exact Keep.refl _ _
    · exact get_same _ _ _ (by simp [hs])
  intro hc2 C2 hN
  have z0 : 0 ≤ z := z2
  have z1 : z ≤ 1048576 := by have := of_decide_eq_false hc2; omega
  clear z2 hc2 hc
  refine check (Nm (.pointer (some ⟨b, o, none⟩)) (z) (.int .i64 (k : Int)) jv) (decide ((1048576 : Int) < s3.size)) (fun T' h => by rw [h.size]; decide) hret.out ?_ ?_
  · intro K Q' HK
    have hN' := hide hN
    obtain ⟨hs, h0, h3, h4, h5⟩ := hN
    go_wp2_with fail
    refine HK.out _ (hN'.out.keep ?_) ?_
    · repeat (refine Keep.set (by decide) ?_)
      exact Keep.refl _ _
    · exact get_same _ _ _ (by simp [hs])
  intro hc A3 hN
  have hc := of_decide_eq_false hc
  refine Abs.step (Nm (.pointer (some ⟨b, o, none⟩)) (z + s3.size) (.int .i64 (k : Int)) jv) ?_ ?_
  · intro K Q' HK
    have hN' := hide hN
    obtain ⟨hs, h0, h3, h4, h5⟩ := hN
    go_wp2_with fail
    refine HK.out _ (Nm.setZ (hN'.out.keep ?_) _)
    repeat (refine Keep.set (by decide) ?_)
    exact Keep.refl _ _
  intro B3 hN
  have z2 : 0 ≤ z + s3.size := by omega
  clear z0 z1
  generalize z + (s3.size : Int) = z at *
  refine check (Nm (.pointer (some ⟨b, o, none⟩)) (z) (.int .i64 (k : Int)) jv) (decide ((1048576 : Int) < z)) (fun T' h => by rw [h.size]; decide) hret.out ?_ ?_
  · intro K Q' HK
    have hN' := hide hN
    obtain ⟨hs, h0, h3, h4, h5⟩ := hN
    go_wp2_with fail
    refine HK.out _ (hN'.out.keep ?_) ?_
    · repeat (refine Keep.set (by decide) ?_)
      exact Keep.refl _ _
    · exact get_same _ _ _ (by simp [hs])
  intro hc3 C3 hN
  have z0 : 0 ≤ z := z2
  have z1 : z ≤ 1048576 := by have := of_decide_eq_false hc3; omega
  clear z2 hc3 hc
  refine check (Nm (.pointer (some ⟨b, o, none⟩)) (z) (.int .i64 (k : Int)) jv) (decide ((1048576 : Int) < s4.size)) (fun T' h => by rw [h.size]; decide) hret.out ?_ ?_
  · intro K Q' HK
    have hN' := hide hN
    obtain ⟨hs, h0, h3, h4, h5⟩ := hN
    go_wp2_with fail
    refine HK.out _ (hN'.out.keep ?_) ?_
    · repeat (refine Keep.set (by decide) ?_)
      exact Keep.refl _ _
    · exact get_same _ _ _ (by simp [hs])
  intro hc A4 hN
  have hc := of_decide_eq_false hc
  refine Abs.step (Nm (.pointer (some ⟨b, o, none⟩)) (z + s4.size) (.int .i64 (k : Int)) jv) ?_ ?_
  · intro K Q' HK
    have hN' := hide hN
    obtain ⟨hs, h0, h3, h4, h5⟩ := hN
    go_wp2_with fail
    refine HK.out _ (Nm.setZ (hN'.out.keep ?_) _)
    repeat (refine Keep.set (by decide) ?_)
    exact Keep.refl _ _
  intro B4 hN
  have z2 : 0 ≤ z + s4.size := by omega
  clear z0 z1
  generalize z + (s4.size : Int) = z at *
  refine check (Nm (.pointer (some ⟨b, o, none⟩)) (z) (.int .i64 (k : Int)) jv) (decide ((1048576 : Int) < z)) (fun T' h => by rw [h.size]; decide) hret.out ?_ ?_
  · intro K Q' HK
    have hN' := hide hN
    obtain ⟨hs, h0, h3, h4, h5⟩ := hN
    go_wp2_with fail
    refine HK.out _ (hN'.out.keep ?_) ?_
    · repeat (refine Keep.set (by decide) ?_)
      exact Keep.refl _ _
    · exact get_same _ _ _ (by simp [hs])
  intro hc4 C4 hN
  have z0 : 0 ≤ z := z2
  have z1 : z ≤ 1048576 := by have := of_decide_eq_false hc4; omega
  clear z2 hc4 hc
  refine check (Nm (.pointer (some ⟨b, o, none⟩)) (z) (.int .i64 (k : Int)) jv) (decide ((1048576 : Int) < s5.size)) (fun T' h => by rw [h.size]; decide) hret.out ?_ ?_
  · intro K Q' HK
    have hN' := hide hN
    obtain ⟨hs, h0, h3, h4, h5⟩ := hN
    go_wp2_with fail
    refine HK.out _ (hN'.out.keep ?_) ?_
    · repeat (refine Keep.set (by decide) ?_)
      exact Keep.refl _ _
    · exact get_same _ _ _ (by simp [hs])
  intro hc A5 hN
  have hc := of_decide_eq_false hc
  refine Abs.step (Nm (.pointer (some ⟨b, o, none⟩)) (z + s5.size) (.int .i64 (k : Int)) jv) ?_ ?_
  · intro K Q' HK
    have hN' := hide hN
    obtain ⟨hs, h0, h3, h4, h5⟩ := hN
    go_wp2_with fail
    refine HK.out _ (Nm.setZ (hN'.out.keep ?_) _)
    repeat (refine Keep.set (by decide) ?_)
    exact Keep.refl _ _
  intro B5 hN
  have z2 : 0 ≤ z + s5.size := by omega
  clear z0 z1
  generalize z + (s5.size : Int) = z at *
  refine check (Nm (.pointer (some ⟨b, o, none⟩)) (z) (.int .i64 (k : Int)) jv) (decide ((1048576 : Int) < z)) (fun T' h => by rw [h.size]; decide) hret.out ?_ ?_
  · intro K Q' HK
    have hN' := hide hN
    obtain ⟨hs, h0, h3, h4, h5⟩ := hN
    go_wp2_with fail
    refine HK.out _ (hN'.out.keep ?_) ?_
    · repeat (refine Keep.set (by decide) ?_)
      exact Keep.refl _ _
    · exact get_same _ _ _ (by simp [hs])
  intro hc5 C5 hN
  have z0 : 0 ≤ z := z2
  have z1 : z ≤ 1048576 := by have := of_decide_eq_false hc5; omega
  clear z2 hc5 hc
  refine check (Nm (.pointer (some ⟨b, o, none⟩)) (z) (.int .i64 (k : Int)) jv) (decide ((1048576 : Int) < s6.size)) (fun T' h => by rw [h.size]; decide) hret.out ?_ ?_
  · intro K Q' HK
    have hN' := hide hN
    obtain ⟨hs, h0, h3, h4, h5⟩ := hN
    go_wp2_with fail
    refine HK.out _ (hN'.out.keep ?_) ?_
    · repeat (refine Keep.set (by decide) ?_)
      exact Keep.refl _ _
    · exact get_same _ _ _ (by simp [hs])
  intro hc A6 hN
  have hc := of_decide_eq_false hc
  refine Abs.step (Nm (.pointer (some ⟨b, o, none⟩)) (z + s6.size) (.int .i64 (k : Int)) jv) ?_ ?_
  · intro K Q' HK
    have hN' := hide hN
    obtain ⟨hs, h0, h3, h4, h5⟩ := hN
    go_wp2_with fail
    refine HK.out _ (Nm.setZ (hN'.out.keep ?_) _)
    repeat (refine Keep.set (by decide) ?_)
    exact Keep.refl _ _
  intro B6 hN
  have z2 : 0 ≤ z + s6.size := by omega
  clear z0 z1
  generalize z + (s6.size : Int) = z at *
  refine check_of (Nm (.pointer (some ⟨b, o, none⟩)) (z) (.int .i64 (k : Int)) jv) (decide ((1048576 : Int) < z)) (fun T' h => by rw [h.size]; decide) hret.out ?_ ?_
  · intro K Q' HK
    have hN' := hide hN
    obtain ⟨hs, h0, h3, h4, h5⟩ := hN
    go_wp2_with fail
    refine HK.out _ (hN'.out.keep ?_) ?_
    · repeat (refine Keep.set (by decide) ?_)
      exact Keep.refl _ _
    · exact get_same _ _ _ (by simp [hs])
  intro hc6 C6 hN
  have z0 : 0 ≤ z := z2
  have z1 : z ≤ 1048576 := by have := of_decide_eq_false hc6; omega
  clear z2 hc6 hc
  exact hend.out _ _ z0 z1 hN
end Go.Proofs.Qxb6608981aMods.Abs5
