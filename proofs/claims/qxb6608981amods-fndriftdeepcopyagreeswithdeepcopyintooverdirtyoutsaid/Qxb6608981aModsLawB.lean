/-
  THE LAW OF DEEPCOPYINTO OVER A DIRTY OUT (function 6), of the contracts of what it calls.
-/
import Derived.Test.Qxb6608981aModsLawA
namespace Go.Proofs.Qxb6608981aMods
open Go.RowKit

/-- A drift that came in, nil or not. -/
def ZO (w : World) (v : Value) : Prop := v = .pointer none ∨ ∃ b o md ig, v = .pointer (some ⟨b, o, none⟩) ∧ ZD w b o md ig
/-- zzBytes's contract, as this law leans on it. -/
def BytesB : Prop := ∀ (v u : Value) (w : World), ZO w v → ZO w u → Calls Trym.prog 18 #[v, u] w fun e w' => ∃ x, e = .returned (.bool x) ∧ w = w'

theorem budget_opt (v : Value) (w : World) (z : ZO w v) (r : Int) (r0 : 0 ≤ r) (r1 : r ≤ 1048576) :
    Calls Trym.prog 13 #[v, .int .i64 r] w fun e w' => ∃ q ok, e = .returned (.tuple #[.int .i64 q, .bool ok]) ∧ w = w' := by
  rcases z with rfl | ⟨b, o, md, ig, rfl, z⟩
  · exact (budget_nil w r).mono fun _ _ ⟨he, hw⟩ => ⟨_, _, he, hw⟩
  · exact (budget_calls b o md ig w z r r0 r1).mono fun _ _ ⟨q, ok, he, hw, _⟩ => ⟨q, ok, he, hw⟩

theorem into_again {w : World} {lo hi gy : Nat} {md : ByteArray} {ig : Igs} {u0 u1 : Value} (hB : IgsB ig) (c : Cp w lo hi md ig) (hgy : gy < w.heap.size) (hout : hi ≤ gy)
    (d0 : w.cell? ⟨gy, 0, none⟩ = some u0) (d1 : w.cell? ⟨gy, 1, none⟩ = some u1) (f0 : w.frozen? ⟨gy, 0, none⟩ = false) (f1 : w.frozen? ⟨gy, 1, none⟩ = false) :
    Calls Trym.prog 19 #[.pointer (some ⟨lo, 0, none⟩), .pointer (some ⟨gy, 0, none⟩)] w fun e w' => e = .returned (.tuple #[]) ∧ Cp w' gy w'.heap.size md ig ∧ Below gy w w' :=
  (copyDrift_calls lo gy lo hi md ig w hB c.din c.le hgy (.inr hout) u0 u1 d0 d1 f0 f1).mono fun _ _ ⟨he, hd, hp⟩ => ⟨he, ⟨hd, Nat.le_refl _⟩, hp.toBelow (Nat.le_of_lt hgy) (Nat.le_refl _)⟩

set_option maxHeartbeats 3200000 in
set_option maxRecDepth 4000 in
theorem lawB_nil (HB : Hid BytesB) (y : Option Addr) (w0 : World) (z : ZO w0 (.pointer y)) : Calls Trym.prog 6 #[.pointer none, .pointer y] w0 fun e w' => e = .returned (.bool true) ∧ Below w0.heap.size w0 w' := by
  have HZ := hide z
  clear z
  go_enter Trym.func6, Trym.ntmps6
  go_wp2_with fail
  refine (HB.out _ _ w0 (.inl rfl) HZ.out).mono ?_
  rintro e w ⟨x, rfl, rfl⟩
  cases x with
  | false =>
    go_wp2
    go_ret
    exact ⟨rfl, Below.refl _ _⟩
  | true =>
  go_wp2_with fail
  refine (budget_nil w0 1048576).mono ?_
  rintro e w ⟨rfl, rfl⟩
  go_wp2_with fail
  refine (budget_opt _ w0 HZ.out 1048576 (by omega) (by omega)).mono ?_
  rintro e w ⟨q, ok, rfl, rfl⟩
  cases ok with
  | false =>
    go_wp2
    go_ret
    exact ⟨rfl, Below.refl _ _⟩
  | true =>
  go_wp2_with fail
  refine (toAPI_nil w0).mono ?_
  rintro e w ⟨rfl, rfl⟩
  go_wp2_with fail
  refine (deepCopy_nil w0).mono ?_
  rintro e w ⟨rfl, rfl⟩
  go_wp2_with fail
  go_ret
  exact ⟨rfl, Below.refl _ _⟩

set_option maxHeartbeats 6400000 in
set_option maxRecDepth 4000 in
theorem lawB_some (HB : Hid BytesB) (HM : Hid MutSays) (b o : Nat) (md : ByteArray) (ig : Igs) (y : Option Addr) (w0 : World) (z : ZD w0 b o md ig) (zy : ZO w0 (.pointer y)) :
    Calls Trym.prog 6 #[.pointer (some ⟨b, o, none⟩), .pointer y] w0 fun e w' => e = .returned (.bool true) ∧ Below w0.heap.size w0 w' := by
  have HZ := hide z
  have HY := hide zy
  clear z zy
  go_enter Trym.func6, Trym.ntmps6
  go_wp2_with fail
  refine (HB.out _ _ w0 (.inr ⟨b, o, md, ig, rfl, HZ.out⟩) HY.out).mono ?_
  rintro e w ⟨x, rfl, rfl⟩
  cases x with
  | false =>
    go_wp2
    go_ret
    exact ⟨rfl, Below.refl _ _⟩
  | true =>
  go_wp2_with fail
  refine (budget_calls b o md ig w0 HZ.out 1048576 (by omega) (by omega)).mono ?_
  rintro e w ⟨q, ok, rfl, rfl, hok⟩
  cases ok with
  | false =>
    clear hok
    go_wp2
    go_ret
    exact ⟨rfl, Below.refl _ _⟩
  | true =>
  have HI : Hid (md.size ≤ 1048576 ∧ IgsB ig) := hide ⟨(hok rfl).2.2.1, (hok rfl).2.2.2⟩
  have hq0 := (hok rfl).1
  have hq1 := (hok rfl).2.1
  clear hok
  have HYB : Hid (Calls Trym.prog 13 #[.pointer y, .int .i64 q] w0 fun e w' => ∃ q ok, e = .returned (.tuple #[.int .i64 q, .bool ok]) ∧ w0 = w' ∧ (ok = true → y = none ∨ ∃ b o md ig, y = some ⟨b, o, none⟩ ∧ ZD w0 b o md ig ∧ IgsB ig)) := by
    rcases HY.out with h | ⟨b', o', md', ig', h, z'⟩
    · cases h
      exact (budget_nil w0 q).mono fun _ _ ⟨he, hw⟩ => ⟨_, _, he, hw, fun _ => .inl rfl⟩
    · cases h
      exact (budget_calls b' o' md' ig' w0 z' q hq0 hq1).mono fun _ _ ⟨q', ok, he, hw, hk⟩ => ⟨q', ok, he, hw, fun h => .inr ⟨b', o', md', ig', rfl, z', (hk h).2.2.2⟩⟩
  clear HY
  go_wp2_with fail
  refine HYB.out.mono ?_
  rintro e w ⟨q2, ok2, rfl, rfl, hok2⟩
  clear HYB hq0 hq1
  cases ok2 with
  | false =>
    clear hok2
    go_wp2
    go_ret
    exact ⟨rfl, Below.refl _ _⟩
  | true =>
  have HE := hide (hok2 rfl)
  clear hok2
  go_wp2_with fail
  refine (toAPI_calls b o md ig w0 HI.out.2 HZ.out).mono ?_
  rintro e w1 ⟨rfl, hD1, hB1⟩
  have HS : Hid (Cp w1 w0.heap.size w1.heap.size md ig) := hide ⟨hD1, Nat.le_refl _⟩
  have HW := hide hB1
  have h10 : w0.heap.size < w1.heap.size := hD1.hi
  clear hD1 hB1
  go_wp2_with fail
  refine (copy_again HI.out.2 HS.out).mono ?_
  rintro e w2 ⟨rfl, hC, hB2, hF1⟩
  have h21 : w1.heap.size < w2.heap.size := hC.din.hi
  have HC1 := hide hC
  have HS2 := hide (HS.out.keep hB2 (Nat.le_refl _))
  have HW2 := hide (HW.out.trans (hB2.mono (by omega)))
  have p1 := ptr_ne (by omega) HC1.out.din.c0 HS2.out.din.c0 hF1
  clear HS HW hC hB2 hF1
  -- all that follows, once out is there
  have HOUT : Hid (∀ w3, Below w2.heap.size w2 w3 → w2.heap.size < w3.heap.size → ∀ u0 u1, w3.cell? ⟨w2.heap.size, 0, none⟩ = some u0 → w3.cell? ⟨w2.heap.size, 1, none⟩ = some u1 → w3.frozen? ⟨w2.heap.size, 0, none⟩ = false → w3.frozen? ⟨w2.heap.size, 1, none⟩ = false →
      Calls Trym.prog 19 #[.pointer (some ⟨w0.heap.size, 0, none⟩), .pointer (some ⟨w2.heap.size, 0, none⟩)] w3 fun e w4 => e = .returned (.tuple #[]) ∧ Cp w4 w2.heap.size w4.heap.size md ig ∧ Cp w4 w1.heap.size w2.heap.size md ig ∧ Cp w4 w0.heap.size w1.heap.size md ig ∧ Below w0.heap.size w0 w4) :=
    fun w3 k h3 u0 u1 d0 d1 f0 f1 =>
      (into_again HI.out.2 (HS2.out.keep k (by omega)) h3 (by omega) d0 d1 f0 f1).mono fun _ w4 ⟨he, hc, hb⟩ =>
        ⟨he, hc, (HC1.out.keep k (Nat.le_refl _)).keep hb (Nat.le_refl _), (HS2.out.keep k (by omega)).keep hb (by omega), (HW2.out.trans (k.mono (by omega))).trans (hb.mono (by omega))⟩
  have HTA : Hid (∀ (b' o' : Nat) (md' : ByteArray) (ig' : Igs), ZD w0 b' o' md' ig' → ZD w2 b' o' md' ig') := fun _ _ _ _ z => z.later HW2.out
  clear HC1 HS2 HW2
  rcases HE.out with rfl | ⟨b', o', md', ig', rfl, z', hB'⟩
  · clear HE HTA
    go_wp2_with fail
    refine (toAPI_nil w2).mono ?_
    rintro e w ⟨rfl, rfl⟩
    have HOUT2 := hide (HOUT.out (w2.alloc (.cells #[.string { data := #[] }, .slice none 0 0] 42)) ((Below.refl _ _).alloc (Nat.le_refl _) _) (by simp) (.string { data := #[] }) (.slice none 0 0) (by simp) (by simp) (by simp [go_sem]) (by simp [go_sem]))
    clear HOUT p1
    go_wp2_with fail
    refine HOUT2.out.mono ?_
    rintro e w4 ⟨rfl, hO, hC, hS, hW⟩
    have HO4 := hide hO
    have HC4 := hide hC
    have HS4 := hide hS
    have HW4 := hide hW
    clear hO hC hS hW HOUT2
    go_wp2_with fail
    refine (same_again HZ.out HW4.out HO4.out).mono ?_
    rintro e w5 ⟨rfl, hB5⟩
    have HO5 := hide (HO4.out.keep hB5 HO4.out.le)
    have HC5 := hide (HC4.out.keep hB5 HC4.out.le)
    have HS5 := hide (HS4.out.keep hB5 HS4.out.le)
    have HW5 := hide (HW4.out.trans (hB5.mono HW4.out.size))
    clear HO4 HC4 HS4 HW4 hB5
    go_wp2_with fail
    refine (same_again HZ.out HW5.out HC5.out).mono ?_
    rintro e w6 ⟨rfl, hB6⟩
    have HO6 := hide (HO5.out.keep hB6 HO5.out.le)
    have HC6 := hide (HC5.out.keep hB6 HC5.out.le)
    have HS6 := hide (HS5.out.keep hB6 HS5.out.le)
    have HW6 := hide (HW5.out.trans (hB6.mono HW5.out.size))
    clear HO5 HC5 HS5 HW5 hB6
    go_wp2_with fail
    refine (HM.out w1.heap.size w1.heap.size w2.heap.size md ig w6 HI.out.2 HI.out.1 HC6.out.din HC6.out.le).mono ?_
    rintro e w7 ⟨rfl, hB7, hA7⟩
    have HO7 := hide (HO6.out.over hB7 hA7 (Nat.le_refl _))
    have HS7 := hide (HS6.out.keep hB7 (Nat.le_refl _))
    have HW7 := hide (HW6.out.trans (hB7.mono (Nat.le_of_lt h10)))
    clear HO6 HC6 HS6 HW6 hB7 hA7
    go_wp2_with fail
    refine (same_again HZ.out HW7.out HO7.out).mono ?_
    rintro e w8 ⟨rfl, hB8⟩
    have HO8 := hide (HO7.out.keep hB8 HO7.out.le)
    have HS8 := hide (HS7.out.keep hB8 HS7.out.le)
    have HW8 := hide (HW7.out.trans (hB8.mono HW7.out.size))
    clear HO7 HS7 HW7 hB8
    go_wp2_with fail
    refine (same_again HZ.out HW8.out HS8.out).mono ?_
    rintro e w9 ⟨rfl, hB9⟩
    have HO9 := hide (HO8.out.keep hB9 HO8.out.le)
    have HS9 := hide (HS8.out.keep hB9 HS8.out.le)
    have HW9 := hide (HW8.out.trans (hB9.mono HW8.out.size))
    clear HO8 HS8 HW8 hB9
    go_wp2_with fail
    refine (HM.out w2.heap.size w2.heap.size w4.heap.size md ig w9 HI.out.2 HI.out.1 HO9.out.din HO9.out.le).mono ?_
    rintro e w10 ⟨rfl, hB10, hA10⟩
    have HS10 := hide (HS9.out.keep hB10 (Nat.le_of_lt h21))
    have HW10 := hide (HW9.out.trans (hB10.mono (by omega)))
    clear HO9 HS9 HW9 hB10 hA10
    go_wp2_with fail
    refine (same_again HZ.out HW10.out HS10.out).mono ?_
    rintro e w11 ⟨rfl, hB11⟩
    have HW11 := hide (HW10.out.trans (hB11.mono HW10.out.size))
    clear HS10 HW10 hB11
    go_wp2_with fail
    go_ret
    exact ⟨rfl, HW11.out⟩
  · have HZ' := hide (HTA.out _ _ _ _ z')
    have HB' := hide hB'
    clear HE HTA z' hB'
    go_wp2_with fail
    refine (toAPI_calls b' o' md' ig' w2 HB'.out HZ'.out).mono ?_
    rintro e w3 ⟨rfl, hD3, hB3⟩
    have HOUT2 := hide (HOUT.out w3 hB3 hD3.hi _ _ hD3.c0 hD3.ig.choose_spec.1 hD3.f0 hD3.f1)
    clear HOUT hD3 hB3 p1
    go_wp2_with fail
    refine HOUT2.out.mono ?_
    rintro e w4 ⟨rfl, hO, hC, hS, hW⟩
    have HO4 := hide hO
    have HC4 := hide hC
    have HS4 := hide hS
    have HW4 := hide hW
    clear hO hC hS hW HOUT2 HZ' HB'
    go_wp2_with fail
    refine (same_again HZ.out HW4.out HO4.out).mono ?_
    rintro e w5 ⟨rfl, hB5⟩
    have HO5 := hide (HO4.out.keep hB5 HO4.out.le)
    have HC5 := hide (HC4.out.keep hB5 HC4.out.le)
    have HS5 := hide (HS4.out.keep hB5 HS4.out.le)
    have HW5 := hide (HW4.out.trans (hB5.mono HW4.out.size))
    clear HO4 HC4 HS4 HW4 hB5
    go_wp2_with fail
    refine (same_again HZ.out HW5.out HC5.out).mono ?_
    rintro e w6 ⟨rfl, hB6⟩
    have HO6 := hide (HO5.out.keep hB6 HO5.out.le)
    have HC6 := hide (HC5.out.keep hB6 HC5.out.le)
    have HS6 := hide (HS5.out.keep hB6 HS5.out.le)
    have HW6 := hide (HW5.out.trans (hB6.mono HW5.out.size))
    clear HO5 HC5 HS5 HW5 hB6
    go_wp2_with fail
    refine (HM.out w1.heap.size w1.heap.size w2.heap.size md ig w6 HI.out.2 HI.out.1 HC6.out.din HC6.out.le).mono ?_
    rintro e w7 ⟨rfl, hB7, hA7⟩
    have HO7 := hide (HO6.out.over hB7 hA7 (Nat.le_refl _))
    have HS7 := hide (HS6.out.keep hB7 (Nat.le_refl _))
    have HW7 := hide (HW6.out.trans (hB7.mono (Nat.le_of_lt h10)))
    clear HO6 HC6 HS6 HW6 hB7 hA7
    go_wp2_with fail
    refine (same_again HZ.out HW7.out HO7.out).mono ?_
    rintro e w8 ⟨rfl, hB8⟩
    have HO8 := hide (HO7.out.keep hB8 HO7.out.le)
    have HS8 := hide (HS7.out.keep hB8 HS7.out.le)
    have HW8 := hide (HW7.out.trans (hB8.mono HW7.out.size))
    clear HO7 HS7 HW7 hB8
    go_wp2_with fail
    refine (same_again HZ.out HW8.out HS8.out).mono ?_
    rintro e w9 ⟨rfl, hB9⟩
    have HO9 := hide (HO8.out.keep hB9 HO8.out.le)
    have HS9 := hide (HS8.out.keep hB9 HS8.out.le)
    have HW9 := hide (HW8.out.trans (hB9.mono HW8.out.size))
    clear HO8 HS8 HW8 hB9
    go_wp2_with fail
    refine (HM.out w2.heap.size w2.heap.size w4.heap.size md ig w9 HI.out.2 HI.out.1 HO9.out.din HO9.out.le).mono ?_
    rintro e w10 ⟨rfl, hB10, hA10⟩
    have HS10 := hide (HS9.out.keep hB10 (Nat.le_of_lt h21))
    have HW10 := hide (HW9.out.trans (hB10.mono (by omega)))
    clear HO9 HS9 HW9 hB10 hA10
    go_wp2_with fail
    refine (same_again HZ.out HW10.out HS10.out).mono ?_
    rintro e w11 ⟨rfl, hB11⟩
    have HW11 := hide (HW10.out.trans (hB11.mono HW10.out.size))
    clear HS10 HW10 hB11
    go_wp2_with fail
    go_ret
    exact ⟨rfl, HW11.out⟩
end Go.Proofs.Qxb6608981aMods
