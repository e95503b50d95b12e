/-
  THE LAW OF DEEPCOPY (function 5), of the contracts of what it calls.
-/
import Derived.Test.Qxb6608981aModsBudget
import Derived.Test.Qxb6608981aModsFresh
namespace Go.Proofs.Qxb6608981aMods
open Go.RowKit

/-- zzBytes's contract, as a law leans on it. -/
def BytesA : Prop := ∀ (b o : Nat) (md : ByteArray) (ig : Igs) (w : World), ZD w b o md ig → Calls Trym.prog 12 #[.pointer (some ⟨b, o, none⟩)] w fun e w' => ∃ x, e = .returned (.bool x) ∧ w = w'
def BytesA0 : Prop := ∀ (w : World), Calls Trym.prog 12 #[.pointer none] w fun e w' => ∃ x, e = .returned (.bool x) ∧ w = w'
/-- zzMutate's contract. -/
def MutSays : Prop := ∀ (gx a b : Nat) (md : ByteArray) (ig : Igs) (w : World), IgsB ig → md.size ≤ 1048576 → DIn w a b gx md ig → b ≤ w.heap.size →
    Calls Trym.prog 17 #[.pointer (some ⟨gx, 0, none⟩)] w fun e w' => e = .returned (.tuple #[]) ∧ Below a w w' ∧ Agree b w.heap.size w w'

/-- A drift of the law's own: blocks lo to hi, its head in block lo. -/
structure Cp (w : World) (lo hi : Nat) (md : ByteArray) (ig : Igs) : Prop where
  din : DIn w lo hi lo md ig
  le : hi ≤ w.heap.size
theorem Cp.keep {w w' : World} {lo hi B : Nat} {md : ByteArray} {ig : Igs} (h : Cp w lo hi md ig) (k : Below B w w') (hB : hi ≤ B) : Cp w' lo hi md ig :=
  ⟨h.din.keep ((Agree.of k).mono (Nat.zero_le _) hB), Nat.le_trans h.le k.size⟩
theorem Cp.over {w w' : World} {lo hi a b : Nat} {md : ByteArray} {ig : Igs} (h : Cp w lo hi md ig) (k : Below a w w') (ag : Agree b w.heap.size w w') (hB : b ≤ lo) : Cp w' lo hi md ig :=
  ⟨h.din.keep (ag.mono hB h.le), Nat.le_trans h.le k.size⟩

theorem same_again {w0 w : World} {b o lo hi : Nat} {md : ByteArray} {ig : Igs} (z : ZD w0 b o md ig) (k : Below w0.heap.size w0 w) (c : Cp w lo hi md ig) :
    Calls Trym.prog 16 #[.pointer (some ⟨lo, 0, none⟩), .pointer (some ⟨b, o, none⟩)] w fun e w' => e = .returned (.bool true) ∧ Below w.heap.size w w' :=
  (same_calls lo lo hi b o md ig w c.din (z.later k)).mono fun _ _ ⟨he, hn⟩ => ⟨he, drew_below hn _⟩
theorem copy_again {w : World} {lo hi : Nat} {md : ByteArray} {ig : Igs} (hB : IgsB ig) (c : Cp w lo hi md ig) :
    Calls Trym.prog 15 #[.pointer (some ⟨lo, 0, none⟩)] w fun e w' => e = .returned (.pointer (some ⟨w.heap.size, 0, none⟩)) ∧ Cp w' w.heap.size w'.heap.size md ig ∧ Below w.heap.size w w' ∧ ∀ p, w'.frozen? ⟨w.heap.size, p, none⟩ = false :=
  (deepCopy_fresh lo lo hi md ig w hB c.din c.le).mono fun _ _ ⟨he, hd, hb, hf⟩ => ⟨he, ⟨hd, Nat.le_refl _⟩, hb, hf⟩

set_option maxHeartbeats 3200000 in
set_option maxRecDepth 4000 in
theorem lawA_nil (HB : Hid BytesA0) (w0 : World) : Calls Trym.prog 5 #[.pointer none] w0 fun e w' => e = .returned (.bool true) ∧ Below w0.heap.size w0 w' := by
  go_enter Trym.func5, Trym.ntmps5
  go_wp2_with fail
  refine (HB.out w0).mono ?_
  rintro e w ⟨x, rfl, rfl⟩
  cases x with
  | false =>
    go_wp2
    go_ret
    exact ⟨rfl, Below.refl _ _⟩
  | true =>
  go_wp2_with fail
  refine (budget_nil w0 1048576).mono ?_
  rintro e w ⟨rfl, rfl⟩
  go_wp2_with fail
  refine (toAPI_nil w0).mono ?_
  rintro e w ⟨rfl, rfl⟩
  go_wp2_with fail
  refine (deepCopy_nil w0).mono ?_
  rintro e w ⟨rfl, rfl⟩
  go_wp2_with fail
  go_ret
  exact ⟨rfl, Below.refl _ _⟩

set_option maxHeartbeats 6400000 in
set_option maxRecDepth 4000 in
theorem lawA_some (HB : Hid BytesA) (HM : Hid MutSays) (b o : Nat) (md : ByteArray) (ig : Igs) (w0 : World) (z : ZD w0 b o md ig) :
    Calls Trym.prog 5 #[.pointer (some ⟨b, o, none⟩)] w0 fun e w' => e = .returned (.bool true) ∧ Below w0.heap.size w0 w' := by
  have HZ := hide z
  clear z
  go_enter Trym.func5, Trym.ntmps5
  go_wp2_with fail
  refine (HB.out b o md ig w0 HZ.out).mono ?_
  rintro e w ⟨x, rfl, rfl⟩
  cases x with
  | false =>
    go_wp2
    go_ret
    exact ⟨rfl, Below.refl _ _⟩
  | true =>
  go_wp2_with fail
  refine (budget_calls b o md ig w0 HZ.out 1048576 (by omega) (by omega)).mono ?_
  rintro e w ⟨q, ok, rfl, rfl, hok⟩
  cases ok with
  | false =>
    clear hok
    go_wp2
    go_ret
    exact ⟨rfl, Below.refl _ _⟩
  | true =>
  have HI : Hid (md.size ≤ 1048576 ∧ IgsB ig) := hide ⟨(hok rfl).2.2.1, (hok rfl).2.2.2⟩
  clear hok
  go_wp2_with fail
  refine (toAPI_calls b o md ig w0 HI.out.2 HZ.out).mono ?_
  rintro e w1 ⟨rfl, hD1, hB1⟩
  have HS : Hid (Cp w1 w0.heap.size w1.heap.size md ig) := hide ⟨hD1, Nat.le_refl _⟩
  have HW := hide hB1
  have h10 : w0.heap.size < w1.heap.size := hD1.hi
  clear hD1 hB1
  go_wp2_with fail
  refine (copy_again HI.out.2 HS.out).mono ?_
  rintro e w2 ⟨rfl, hC, hB2, hF1⟩
  have h21 : w1.heap.size < w2.heap.size := hC.din.hi
  have HC1 := hide hC
  have HS2 := hide (HS.out.keep hB2 (Nat.le_refl _))
  have HW2 := hide (HW.out.trans (hB2.mono (by omega)))
  have p1 := ptr_ne (by omega) HC1.out.din.c0 HS2.out.din.c0 hF1
  clear HS HW hC hB2 hF1
  go_wp2_with fail
  clear p1
  refine (same_again HZ.out HW2.out HC1.out).mono ?_
  rintro e w3 ⟨rfl, hB3⟩
  have h32 := hB3.size
  have HC13 := hide (HC1.out.keep hB3 HC1.out.le)
  have HS3 := hide (HS2.out.keep hB3 HS2.out.le)
  have HW3 := hide (HW2.out.trans (hB3.mono HW2.out.size))
  clear HC1 HS2 HW2 hB3
  go_wp2_with fail
  refine (copy_again HI.out.2 HC13.out).mono ?_
  rintro e w4 ⟨rfl, hC2, hB4, hF2⟩
  have h43 : w3.heap.size < w4.heap.size := hC2.din.hi
  have HC24 := hide hC2
  have HC14 := hide (HC13.out.keep hB4 HC13.out.le)
  have HS4 := hide (HS3.out.keep hB4 HS3.out.le)
  have HW4 := hide (HW3.out.trans (hB4.mono HW3.out.size))
  have p2 := ptr_ne (by omega) HC24.out.din.c0 HC14.out.din.c0 hF2
  have p3 := ptr_ne (by omega) HC24.out.din.c0 HS4.out.din.c0 hF2
  clear HC13 HS3 HW3 hC2 hB4 hF2
  go_wp2_with fail
  clear p2 p3
  refine (same_again HZ.out HW4.out HC24.out).mono ?_
  rintro e w5 ⟨rfl, hB5⟩
  have HC25 := hide (HC24.out.keep hB5 HC24.out.le)
  have HC15 := hide (HC14.out.keep hB5 HC14.out.le)
  have HS5 := hide (HS4.out.keep hB5 HS4.out.le)
  have HW5 := hide (HW4.out.trans (hB5.mono HW4.out.size))
  clear HC24 HC14 HS4 HW4 hB5
  go_wp2_with fail
  refine (HM.out w1.heap.size w1.heap.size w2.heap.size md ig w5 HI.out.2 HI.out.1 HC15.out.din HC15.out.le).mono ?_
  rintro e w6 ⟨rfl, hB6, hA6⟩
  have HC26 := hide (HC25.out.over hB6 hA6 h32)
  have HS6 := hide (HS5.out.keep hB6 (Nat.le_refl _))
  have HW6 := hide (HW5.out.trans (hB6.mono (Nat.le_of_lt h10)))
  clear HC25 HC15 HS5 HW5 hB6 hA6
  go_wp2_with fail
  refine (same_again HZ.out HW6.out HS6.out).mono ?_
  rintro e w7 ⟨rfl, hB7⟩
  have HC27 := hide (HC26.out.keep hB7 HC26.out.le)
  have HS7 := hide (HS6.out.keep hB7 HS6.out.le)
  have HW7 := hide (HW6.out.trans (hB7.mono HW6.out.size))
  clear HC26 HS6 HW6 hB7
  go_wp2_with fail
  refine (same_again HZ.out HW7.out HC27.out).mono ?_
  rintro e w8 ⟨rfl, hB8⟩
  have HC28 := hide (HC27.out.keep hB8 HC27.out.le)
  have HS8 := hide (HS7.out.keep hB8 HS7.out.le)
  have HW8 := hide (HW7.out.trans (hB8.mono HW7.out.size))
  clear HC27 HS7 HW7 hB8
  go_wp2_with fail
  refine (HM.out w3.heap.size w3.heap.size w4.heap.size md ig w8 HI.out.2 HI.out.1 HC28.out.din HC28.out.le).mono ?_
  rintro e w9 ⟨rfl, hB9, hA9⟩
  have HS9 := hide (HS8.out.keep hB9 (by omega))
  have HW9 := hide (HW8.out.trans (hB9.mono (by omega)))
  clear HC28 HS8 HW8 hB9 hA9
  go_wp2_with fail
  refine (same_again HZ.out HW9.out HS9.out).mono ?_
  rintro e w10 ⟨rfl, hB10⟩
  have HS10 := hide (HS9.out.keep hB10 HS9.out.le)
  have HW10 := hide (HW9.out.trans (hB10.mono HW9.out.size))
  clear HS9 HW9 hB10
  go_wp2_with fail
  refine (copy_again HI.out.2 HS10.out).mono ?_
  rintro e w11 ⟨rfl, hC3, hB11, hF3⟩
  have HC3 := hide hC3
  have HW11 := hide (HW10.out.trans (hB11.mono HW10.out.size))
  clear HS10 HW10 hC3 hB11 hF3
  go_wp2_with fail
  refine (same_again HZ.out HW11.out HC3.out).mono ?_
  rintro e w12 ⟨rfl, hB12⟩
  have HW12 := hide (HW11.out.trans (hB12.mono HW11.out.size))
  clear HC3 HW11 hB12
  go_wp2_with fail
  go_ret
  exact ⟨rfl, HW12.out⟩
end Go.Proofs.Qxb6608981aMods
