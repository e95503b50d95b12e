/-
  THE WALK of 'FnSoonerFoldIsEarliest'.
-/
import Derived.Test.Qxb6608639aModsWorlds
import Derived.Deep.RegionHeld3
namespace Go.Proofs.Qxb6608639aMods
open Go.RowKit

set_option maxHeartbeats 400000 in
theorem walkF_long (a : Option Addr) (n c : Nat) (hn : n ≤ maxLen) (h : 4096 < n) (w : World) :
    Calls Trym.prog 3 #[.slice a n c] w fun e w' => e = .returned (.bool true) ∧ Below w.heap.size w w' := by
  by_cases hz : n ≤ 1048576
  · have h1 := zzF_calls a n c hn
    rw [decide_eq_true hz] at h1
    have H1 : Hid (∀ w, Calls Trym.prog 5 #[.slice a n c] w fun e w' => e = .returned (.bool true) ∧ w = w') := h1
    clear h1
    go_enter Trym.func3, Trym.ntmps3
    go_wp2_with (go_at_call 5; refine (H1.out _).mono ?_; rintro e w' ⟨rfl, rfl⟩)
    go_ret
    exact ⟨rfl, Below.refl _ _⟩
  · have h1 := zzF_calls a n c hn
    rw [decide_eq_false hz] at h1
    have H1 : Hid (∀ w, Calls Trym.prog 5 #[.slice a n c] w fun e w' => e = .returned (.bool false) ∧ w = w') := h1
    clear h1
    go_enter Trym.func3, Trym.ntmps3
    go_wp2_with (go_at_call 5; refine (H1.out _).mono ?_; rintro e w' ⟨rfl, rfl⟩)
    go_ret
    exact ⟨rfl, Below.refl _ _⟩

set_option maxHeartbeats 400000 in
theorem walkF_zero (a : Option Addr) (c : Nat) (S : List Int) (hn : S.length ≤ 4096) (hz : noZero S = false) (w : World) (hS : RowIs w a S) :
    Calls Trym.prog 3 #[.slice a S.length c] w fun e w' => e = .returned (.bool true) ∧ Below w.heap.size w w' := by
  have h1 := zzF_calls a S.length c (by unfold maxLen; omega)
  rw [decide_eq_true (by omega)] at h1
  have H1 : Hid (∀ w, Calls Trym.prog 5 #[.slice a S.length c] w fun e w' => e = .returned (.bool true) ∧ w = w') := h1
  have h2 := hasZero_calls a c S hn w hS
  rw [hz] at h2
  have H2 : Hid (Calls Trym.prog 6 #[.slice a S.length c] w fun e w' => e = .returned (.bool true) ∧ w = w') := h2
  clear h1 h2 hS
  go_enter Trym.func3, Trym.ntmps3
  go_wp2_with fail
  refine (H1.out _).mono ?_; rintro e w' ⟨rfl, rfl⟩
  go_wp2_with fail
  refine H2.out.mono ?_; rintro e w' ⟨rfl, rfl⟩
  go_wp2_with fail
  go_ret
  exact ⟨rfl, Below.refl _ _⟩

set_option maxHeartbeats 1600000 in
theorem walkF_in (a : Option Addr) (c : Nat) (S : List Int) (hn : S.length ≤ 4096) (hz : noZero S = true) (hw : Hid (∀ t, t < S.length → -9223372036854775808 ≤ S[t]?.getD 0 ∧ S[t]?.getD 0 ≤ 9223372036854775807)) (w : World) (hS : RowIs w a S) :
    Calls Trym.prog 3 #[.slice a S.length c] w fun e w' => e = .returned (.bool true) ∧ Below w.heap.size w w' := by
  have h1 := zzF_calls a S.length c (by unfold maxLen; omega)
  rw [decide_eq_true (by omega)] at h1
  have H1 : Hid (∀ w, Calls Trym.prog 5 #[.slice a S.length c] w fun e w' => e = .returned (.bool true) ∧ w = w') := h1
  have h2 := hasZero_calls a c S hn w hS
  rw [hz] at h2
  have H2 : Hid (Calls Trym.prog 6 #[.slice a S.length c] w fun e w' => e = .returned (.bool false) ∧ w = w') := h2
  clear h1 h2
  go_enter Trym.func3, Trym.ntmps3
  go_wp2_with fail
  refine (H1.out _).mono ?_; rintro e w' ⟨rfl, rfl⟩
  go_wp2_with fail
  refine H2.out.mono ?_; rintro e w' ⟨rfl, rfl⟩
  go_wp2_with fail
  go_loopw [5] (fun i wr => ∃ k : Nat, k ≤ S.length ∧ i = .int .i64 k ∧ TimeAt wr w.heap.size 0 ∧ TimeAt wr (w.heap.size + 1) (fold 0 (S.take k)) ∧ Below w.heap.size w wr) (fun i _ => S.length - (intOf i).toNat)
  case atStart =>
    refine ⟨0, Nat.zero_le _, rfl, ?_, ?_, ((Below.refl _ _).alloc (Nat.le_refl _) _).alloc (by simp) _⟩
    · exact (TimeAt.made w 0).later (B := w.heap.size + 1) ((Below.refl _ _).alloc (by simp) _) (by omega)
    · have := TimeAt.made (w.alloc (.cells #[.int .u64 0, .int .i64 0, .pointer none] 27)) 0
      simpa [fold] using this
  case round =>
  obtain ⟨k, hk, rfl, hT0, hT1, hbel⟩ := hrel
  by_cases hin : k < S.length
  · obtain ⟨b, off, rfl, hb, hc⟩ := hS (by omega)
    have ga := (hbel.cell (p := ⟨b, off + k, none⟩) hb).trans (hc k hin)
    have hbd := hw.out k hin
    have HF : Hid (fold 0 (S.take (k + 1)) = soon (fold 0 (S.take k)) (S[k]?.getD 0)) := by
      show _ = _
      rw [List.take_succ_eq_append_getElem hin, fold_snoc]
      simp [hin]
    clear hS hc
    generalize S[k]?.getD 0 = x at *
    generalize fold 0 (S.take k) = y at *
    have hsz := hT1.lt
    have n0 := Near.cellAt (B := wr.heap.size) (by omega) hT0.c0
    have n1 := Near.cellAt (B := wr.heap.size) (by omega) hT0.c1
    have n2 := Near.cellAt (B := wr.heap.size) (by omega) hT0.c2
    have n3 := Near.cellAt (B := wr.heap.size) (by omega) hT1.c0
    have n4 := Near.cellAt (B := wr.heap.size) (by omega) hT1.c1
    have n5 := Near.cellAt (B := wr.heap.size) (by omega) hT1.c2
    have n6 := Near.cellAt (B := wr.heap.size) (Nat.lt_of_lt_of_le hb hbel.size) ga
    have f3 := Near.openAt (B := wr.heap.size) (by omega) hT1.f0
    have f4 := Near.openAt (B := wr.heap.size) (by omega) hT1.f1
    have f5 := Near.openAt (B := wr.heap.size) (by omega) hT1.f2
    simp only [Int.zero_emod, Int.zero_ediv] at n0 n1
    have hne : Nonempty (Near wr.heap.size wr) := ⟨⟨wr, Below.refl _ _⟩⟩
    clear ga
    go_wp2_with fail
    refine wp_region_near_last wr.heap.size rfl (by kernel_rfl) rfl (by kernel_rfl) (by kernel_rfl) (by kernel_rfl) ?_
    dsimp only [List.dropLast, List.getLast]
    repeat (go_big_quiet_step (first | (go_at_call 8; exact near_call (Nat.le_refl _) _ (addL _ hbd _)) | (go_at_call 7; exact near_call (Nat.le_refl _) _ (zzL _ _ _))))
    refine wpQuiet_nil ?_
    rintro _ ⟨u, rfl⟩
    have HT0 : Hid (TimeAt (set3 u.w (w.heap.size + 1) (soon y x)) w.heap.size 0) := (hT0.later u.h (by omega)).beside (by omega) _
    have HT1 : Hid (TimeAt (set3 u.w (w.heap.size + 1) (soon y x)) (w.heap.size + 1) (soon y x)) := (hT1.later u.h (by omega)).stored _
    have HB : Hid (Below w.heap.size w (set3 u.w (w.heap.size + 1) (soon y x))) := below_set (hbel.trans (u.h.mono hbel.size)) (by omega) _
    clear n0 n1 n2 n6 hT0 hT1 hbel
    generalize soon y x = z at *
    go_wp2
    go_roundw
    case rel => exact ⟨k + 1, by omega, by go_num, HT0, by rw [HF.out]; exact HT1, HB⟩
    case measure => simp [intOf]; omega
  obtain rfl : k = S.length := by omega
  rw [List.take_length] at hT1
  have z0 := hT0.c0
  have z1 := hT0.c1
  have z2 := hT0.c2
  simp only [Int.zero_emod, Int.zero_ediv] at z0 z1
  have hsz := hT1.lt
  have hwz := hbel.size
  go_wp2_with fail
  clear hin hk
  have HW : Hid (TimeAt (wr.alloc (.cells #[.int .u64 0, .int .i64 0, .pointer none] 27)) w.heap.size 0 ∧ TimeAt (wr.alloc (.cells #[.int .u64 0, .int .i64 0, .pointer none] 27)) (w.heap.size + 1) (fold 0 S) ∧
      TimeAt (wr.alloc (.cells #[.int .u64 0, .int .i64 0, .pointer none] 27)) wr.heap.size 0 ∧ Below w.heap.size w (wr.alloc (.cells #[.int .u64 0, .int .i64 0, .pointer none] 27))) :=
    ⟨hT0.later (B := wr.heap.size) ((Below.refl _ _).alloc (Nat.le_refl _) _) (by omega), hT1.later (B := wr.heap.size) ((Below.refl _ _).alloc (Nat.le_refl _) _) (by omega), by simpa using TimeAt.made wr 0, hbel.alloc hbel.size _⟩
  clear z0 z1 z2 hT0 hT1 hbel
  generalize wr.alloc (.cells #[.int .u64 0, .int .i64 0, .pointer none] 27) = W2 at *
  generalize wr.heap.size = g2 at *
  go_loopw [7] (fun i wr => ∃ k : Nat, k ≤ S.length ∧ i = .int .i64 ((k : Int) - 1) ∧ TimeAt wr w.heap.size 0 ∧ TimeAt wr (w.heap.size + 1) (fold 0 S) ∧ TimeAt wr g2 (fold 0 (S.drop k).reverse) ∧ Below w.heap.size w wr) (fun i _ => (intOf i + 1).toNat)
  case atStart =>
    obtain ⟨q0, q1, q2, q3⟩ := HW.out
    exact ⟨S.length, Nat.le_refl _, rfl, q0, q1, by simpa [fold] using q2, q3⟩
  case round =>
  clear HW
  obtain ⟨k, hk, rfl, hT0, hT1, hT2, hbel⟩ := hrel
  by_cases hin : 0 < k
  · obtain ⟨k, rfl⟩ : ∃ m, k = m + 1 := ⟨k - 1, by omega⟩
    obtain ⟨b, off, rfl, hb, hc⟩ := hS (by omega)
    have hkl : k < S.length := by omega
    have ga := (hbel.cell (p := ⟨b, off + k, none⟩) hb).trans (hc k hkl)
    have hbd := hw.out k hkl
    have HF : Hid (fold 0 (S.drop k).reverse = soon (fold 0 (S.drop (k + 1)).reverse) (S[k]?.getD 0)) := fold_back S k hkl
    clear hS hc
    generalize S[k]?.getD 0 = x at *
    generalize fold 0 (S.drop (k + 1)).reverse = y at *
    generalize hF : fold 0 S = fs at *
    have HFS : Hid (fold 0 S = fs) := hF
    clear hF
    have hs2 := hT2.lt
    have n0 := Near.cellAt (B := wr.heap.size) (by omega) hT0.c0
    have n1 := Near.cellAt (B := wr.heap.size) (by omega) hT0.c1
    have n2 := Near.cellAt (B := wr.heap.size) (by omega) hT0.c2
    have n3 := Near.cellAt (B := wr.heap.size) (by omega) hT2.c0
    have n4 := Near.cellAt (B := wr.heap.size) (by omega) hT2.c1
    have n5 := Near.cellAt (B := wr.heap.size) (by omega) hT2.c2
    have n6 := Near.cellAt (B := wr.heap.size) (Nat.lt_of_lt_of_le hb hbel.size) ga
    have f3 := Near.openAt (B := wr.heap.size) (by omega) hT2.f0
    have f4 := Near.openAt (B := wr.heap.size) (by omega) hT2.f1
    have f5 := Near.openAt (B := wr.heap.size) (by omega) hT2.f2
    simp only [Int.zero_emod, Int.zero_ediv] at n0 n1
    have hne : Nonempty (Near wr.heap.size wr) := ⟨⟨wr, Below.refl _ _⟩⟩
    have ek : (((k + 1 : Nat) : Int) - 1) = (k : Int) := by omega
    rw [ek]
    clear ga ek
    go_wp2_with fail
    refine wp_region_near_last wr.heap.size rfl (by kernel_rfl) rfl (by kernel_rfl) (by kernel_rfl) (by kernel_rfl) ?_
    dsimp only [List.dropLast, List.getLast]
    repeat (go_big_quiet_step (first | (go_at_call 8; exact near_call (Nat.le_refl _) _ (addL _ hbd _)) | (go_at_call 7; exact near_call (Nat.le_refl _) _ (zzL _ _ _))))
    refine wpQuiet_nil ?_
    rintro _ ⟨u, rfl⟩
    have HT0 : Hid (TimeAt (set3 u.w g2 (soon y x)) w.heap.size 0) := (hT0.later u.h (by omega)).beside (by omega) _
    have HT1 : Hid (TimeAt (set3 u.w g2 (soon y x)) (w.heap.size + 1) fs) := (hT1.later u.h (by omega)).beside (by omega) _
    have HT2 : Hid (TimeAt (set3 u.w g2 (soon y x)) g2 (soon y x)) := (hT2.later u.h (by omega)).stored _
    have HB : Hid (Below w.heap.size w (set3 u.w g2 (soon y x))) := below_set (hbel.trans (u.h.mono hbel.size)) (by omega) _
    clear n0 n1 n2 n6 hT0 hT1 hT2 hbel
    generalize soon y x = z at *
    go_wp2
    go_roundw
    case rel => exact ⟨k, by omega, rfl, HT0, HT1, by rw [HF.out]; exact HT2, HB⟩
    case measure => simp [intOf]
  obtain rfl : k = 0 := by omega
  rw [List.drop_zero] at hT2
  have p0 := hT1.c0
  have p1 := hT1.c1
  have p2 := hT1.c2
  have q0 := hT2.c0
  have q1 := hT2.c1
  have q2 := hT2.c2
  have hsz2 := hT2.lt
  have hs3 := hT1.lt
  by_cases hS0 : S.length = 0
  · obtain rfl : S = [] := List.eq_nil_of_length_eq_zero hS0
    simp only [fold, List.reverse_nil, Int.zero_emod, Int.zero_ediv] at p0 p1 q0 q1 hT1 hT2
    clear hS hw hz hS0
    go_wp2_with fail
    refine (isZero_lit 0 0 _).mono ?_
    rintro e w5 ⟨rfl, hb5⟩
    obtain ⟨hc5, hf5⟩ := bcell hb5
    go_wp2_with fail
    refine (isZero_lit 0 0 _).mono ?_
    rintro e w6 ⟨rfl, hb6⟩
    go_wp2_with fail
    go_ret
    exact ⟨rfl, (hbel.trans (hb5.mono hbel.size)).trans (hb6.mono (Nat.le_trans hbel.size hb5.size))⟩
  have hS1 : ((S.length : Int) == 0) = false := beq_eq_false_iff_ne.2 (by omega)
  have hR := hS.later hbel
  have hall := (noZero_iff S).1 hz
  have hne0 : S ≠ [] := fun e => hS0 (by rw [e]; rfl)
  have hL : IsLeast (leastAt S 0 S.length) S := by simpa using leastAt_is S 0 S.length (by omega) (Nat.le_refl _)
  have hbd : -9223372036854775808 ≤ leastAt S 0 S.length ∧ leastAt S 0 S.length ≤ 9223372036854775807 := by
    obtain ⟨i, hi, he⟩ := List.getElem_of_mem hL.1
    have := hw.out i hi
    rw [List.getElem?_eq_getElem hi, Option.getD_some, he] at this
    exact this
  have E1 : Hid (decide (fold 0 S = leastAt S 0 S.length) = true) := decide_eq_true ((fold_is S hne0 hall).eq hL)
  have E2 : Hid (decide (fold 0 S.reverse = leastAt S 0 S.length) = true) := decide_eq_true
    (((fold_is S.reverse (by simpa using hne0) (fun x hx => hall x (by simpa using hx))).perm (fun x => by simp)).eq hL)
  have HLO := leastOf_calls a c S 0 S.length hn (by omega) (Nat.le_refl _)
  clear hS hall hne0 hL hw hz
  generalize fold 0 S = x1 at *
  generalize fold 0 S.reverse = x2 at *
  generalize leastAt S 0 S.length = d at *
  have HLOH : Hid (∀ w, RowIs w a S → Calls Trym.prog 10 #[.slice a S.length c, .int .i64 ((0 : Nat) : Int), .int .i64 S.length] w fun e w' => e = .returned (.int .i64 d) ∧ w = w') := HLO
  clear HLO
  go_wp2_with fail
  go_region_held3 (fun w' => w'.cell? ⟨w.heap.size, 0, none⟩ = some (.int .u64 0) ∧ w'.cell? ⟨w.heap.size, 1, none⟩ = some (.int .i64 0) ∧ w'.cell? ⟨w.heap.size, 2, none⟩ = some (.pointer none) ∧ Below wr.heap.size wr w')
    (first | exact sOf hT0 (Below.refl _ _).drew | exact sOf hT0 (sAlloc (by assumption) _) | exact sOf hT0 (by assumption) | exact sOf hT0 (Below.alloc (by assumption) (Below.size (by assumption)) _) | exact sOf hT0 (sSet (by assumption) _) | assumption)
    (first | (go_at_call 10; refine (HLOH.out _ ?_).mono ?_; exact hR.later (And.right (And.right (And.right (by assumption)))); rintro e w' ⟨rfl, rfl⟩) | (go_at_call 8; refine (addL _ hbd _).mono ?_; rintro e w' ⟨rfl, hb8⟩; have hS8 := sCall (W := wr) (by assumption) hb8; obtain ⟨hc8, hf8⟩ := bcell hb8))
  · have HX : Hid (TimeAt (w'.alloc (.cells #[.int .u64 (d % 1000000000), .int .i64 (d / 1000000000), .pointer none] 27)) (w.heap.size + 1) x1 ∧ TimeAt (w'.alloc (.cells #[.int .u64 (d % 1000000000), .int .i64 (d / 1000000000), .pointer none] 27)) g2 x2 ∧
        TimeAt (w'.alloc (.cells #[.int .u64 (d % 1000000000), .int .i64 (d / 1000000000), .pointer none] 27)) w'.heap.size d ∧ Below w.heap.size w (w'.alloc (.cells #[.int .u64 (d % 1000000000), .int .i64 (d / 1000000000), .pointer none] 27))) :=
      have hq := hS8.alloc hS8.size (.cells #[.int .u64 (d % 1000000000), .int .i64 (d / 1000000000), .pointer none] 27)
      ⟨hT1.later hq hs3, hT2.later hq hsz2, TimeAt.made w' d, hbel.trans (hq.mono hbel.size)⟩
    clear hc8 hf8 hb8 hS8 p0 p1 p2 q0 q1 q2 hT0 hT1 hT2 hbel hR hsz2 hs3 hsz hwz
    generalize w'.alloc (.cells #[.int .u64 (d % 1000000000), .int .i64 (d / 1000000000), .pointer none] 27) = X at *
    obtain ⟨t1, t2, t3, hbX⟩ := HX.out
    have r0 := t1.c0
    have r1 := t1.c1
    have r2 := t1.c2
    have r3 := t2.c0
    have r4 := t2.c1
    have r5 := t2.c2
    have r6 := t3.c0
    have r7 := t3.c1
    have r8 := t3.c2
    have l1 := t1.lt
    have l2 := t2.lt
    have l3 := t3.lt
    clear HX t1 t2 t3
    go_wp2_with fail
    refine (equalL _ _ true E1.out _).mono ?_
    rintro e w5 ⟨rfl, hb5⟩
    obtain ⟨hc5, hf5⟩ := bcell hb5
    go_wp2_with fail
    refine (equalL _ _ true E2.out _).mono ?_
    rintro e w6 ⟨rfl, hb6⟩
    go_wp2_with fail
    go_ret
    exact ⟨rfl, (hbX.trans (hb5.mono hbX.size)).trans (hb6.mono (Nat.le_trans hbX.size hb5.size))⟩
  all_goals
    have HX : Hid (TimeAt (set3 w' wr.heap.size d) (w.heap.size + 1) x1 ∧ TimeAt (set3 w' wr.heap.size d) g2 x2 ∧ TimeAt (set3 w' wr.heap.size d) wr.heap.size d ∧ Below w.heap.size w (set3 w' wr.heap.size d)) :=
      have hq : TimeAt w' wr.heap.size 0 := (by simpa using TimeAt.made wr.drew 0 : TimeAt (wr.drew.alloc (.cells #[.int .u64 0, .int .i64 0, .pointer none] 27)) wr.heap.size 0).later hb8 (by simp)
      ⟨(hT1.later hS8 hs3).beside (by omega) _, (hT2.later hS8 hsz2).beside (by omega) _, hq.stored d, below_set (hbel.trans (hS8.mono hbel.size)) hbel.size d⟩
    clear hc8 hf8 hb8 hS8 p0 p1 p2 q0 q1 q2 hT0 hT1 hT2 hbel hR hsz2 hs3 hsz hwz
    change Exit.then _ _ _ _ (set3 w' wr.heap.size d)
    generalize set3 w' wr.heap.size d = X at *
    generalize wr.heap.size = g3 at *
    obtain ⟨t1, t2, t3, hbX⟩ := HX.out
    have r0 := t1.c0
    have r1 := t1.c1
    have r2 := t1.c2
    have r3 := t2.c0
    have r4 := t2.c1
    have r5 := t2.c2
    have r6 := t3.c0
    have r7 := t3.c1
    have r8 := t3.c2
    have l1 := t1.lt
    have l2 := t2.lt
    have l3 := t3.lt
    clear HX t1 t2 t3
    go_wp2_with fail
    refine (equalL _ _ true E1.out _).mono ?_
    rintro e w5 ⟨rfl, hb5⟩
    obtain ⟨hc5, hf5⟩ := bcell hb5
    go_wp2_with fail
    refine (equalL _ _ true E2.out _).mono ?_
    rintro e w6 ⟨rfl, hb6⟩
    go_wp2_with fail
    go_ret
    exact ⟨rfl, (hbX.trans (hb5.mono hbX.size)).trans (hb6.mono (Nat.le_trans hbX.size hb5.size))⟩

end Go.Proofs.Qxb6608639aMods
