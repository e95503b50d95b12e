/-
  THE WALK of 'FnSoonerMergesAtAnyCut'.
-/
import Derived.Test.Qxb6608639aModsWorlds
namespace Go.Proofs.Qxb6608639aMods
open Go.RowKit

theorem wp_region_near' {P : Program} {id : Nat} {Q : Exit → Act → World → Prop} {a : Act} {W : World} {l : List Oper} {B : Nat} (u : Near B W) (hm : P.follows .mixedOrders = true) (hB : Region.lexB .any l.toArray = true)
    (h : wpQuiet P l.toArray (fun w' => ∃ u : Near B W, w' = u.w) (fun a' => ∀ w', (∃ u : Near B W, w' = u.w) → Q .normal a' w') l a) : (Code.region id l.toArray true).wp P Q a u.w :=
  wp_region_quiet (C := fun w' => ∃ u : Near B W, w' = u.w) hm hB ⟨⟨u.w.drew, u.h.drew⟩, rfl⟩ (by simpa using h)
theorem near_same {B : Nat} {W : World} {f : FuncId} {args : Array Value} {v : Value} (u : Near B W)
    (h : Calls Trym.prog f args u.w fun e w' => e = .returned v ∧ u.w = w') : Calls Trym.prog f args u.w fun e w'' => e = .returned v ∧ ∃ u' : Near B W, w'' = u'.w :=
  h.mono fun _ _ ⟨he, hb⟩ => ⟨he, u, hb.symm⟩
theorem leastAt_bd {S : List Int} (hw : ∀ t, t < S.length → -9223372036854775808 ≤ S[t]?.getD 0 ∧ S[t]?.getD 0 ≤ 9223372036854775807) (lo hi : Nat) (h1 : lo < hi) (h2 : hi ≤ S.length) :
    -9223372036854775808 ≤ leastAt S lo hi ∧ leastAt S lo hi ≤ 9223372036854775807 := by
  have hL := (leastAt_is S lo hi h1 h2).1
  obtain ⟨i, hi', he⟩ := List.getElem_of_mem (List.mem_of_mem_take (List.mem_of_mem_drop hL))
  have := hw i hi'
  rw [List.getElem?_eq_getElem hi', Option.getD_some, he] at this
  exact this

set_option maxHeartbeats 800000 in
theorem walkM_out (a : Option Addr) (n c : Nat) (k : Int) (hn : n ≤ maxLen) (h : 4096 < n ∨ k < 0 ∨ (n : Int) ≤ k) (w : World) :
    Calls Trym.prog 4 #[.slice a n c, .int .i64 k] w fun e w' => e = .returned (.bool true) ∧ Below w.heap.size w w' := by
  by_cases hz : n ≤ 1048576
  · have h1 := zzM_calls a n c k hn
    rw [decide_eq_true hz] at h1
    have H1 : Hid (∀ w, Calls Trym.prog 12 #[.slice a n c, .int .i64 k] w fun e w' => e = .returned (.bool true) ∧ w = w') := h1
    clear h1
    by_cases h1 : 4096 < n
    · go_enter Trym.func4, Trym.ntmps4
      go_wp2_with (go_at_call 12; refine (H1.out _).mono ?_; rintro e w' ⟨rfl, rfl⟩)
      go_ret
      exact ⟨rfl, Below.refl _ _⟩
    by_cases h2 : k < 0
    · go_enter Trym.func4, Trym.ntmps4
      go_wp2_with (go_at_call 12; refine (H1.out _).mono ?_; rintro e w' ⟨rfl, rfl⟩)
      go_ret
      exact ⟨rfl, Below.refl _ _⟩
    have h3 : (n : Int) ≤ k := by omega
    go_enter Trym.func4, Trym.ntmps4
    go_wp2_with (go_at_call 12; refine (H1.out _).mono ?_; rintro e w' ⟨rfl, rfl⟩)
    go_ret
    exact ⟨rfl, Below.refl _ _⟩
  · have h1 := zzM_calls a n c k hn
    rw [decide_eq_false hz] at h1
    have H1 : Hid (∀ w, Calls Trym.prog 12 #[.slice a n c, .int .i64 k] w fun e w' => e = .returned (.bool false) ∧ w = w') := h1
    clear h1
    go_enter Trym.func4, Trym.ntmps4
    go_wp2_with (go_at_call 12; refine (H1.out _).mono ?_; rintro e w' ⟨rfl, rfl⟩)
    go_ret
    exact ⟨rfl, Below.refl _ _⟩

set_option maxHeartbeats 400000 in
theorem walkM_zero (a : Option Addr) (c : Nat) (S : List Int) (q : Nat) (hq : q < S.length) (hn : S.length ≤ 4096) (hz : noZero S = false) (w : World) (hS : RowIs w a S) :
    Calls Trym.prog 4 #[.slice a S.length c, .int .i64 q] w fun e w' => e = .returned (.bool true) ∧ Below w.heap.size w w' := by
  have h1 := zzM_calls a S.length c q (by unfold maxLen; omega)
  rw [decide_eq_true (by omega)] at h1
  have H1 : Hid (∀ w, Calls Trym.prog 12 #[.slice a S.length c, .int .i64 q] w fun e w' => e = .returned (.bool true) ∧ w = w') := h1
  have h2 := hasZero_calls a c S hn w hS
  rw [hz] at h2
  have H2 : Hid (Calls Trym.prog 6 #[.slice a S.length c] w fun e w' => e = .returned (.bool true) ∧ w = w') := h2
  clear h1 h2 hS
  go_enter Trym.func4, Trym.ntmps4
  go_wp2_with fail
  refine (H1.out _).mono ?_; rintro e w' ⟨rfl, rfl⟩
  go_wp2_with fail
  refine H2.out.mono ?_; rintro e w' ⟨rfl, rfl⟩
  go_wp2_with fail
  go_ret
  exact ⟨rfl, Below.refl _ _⟩

theorem fold_mid (S : List Int) (q k : Nat) (h1 : q ≤ k) (h2 : k < S.length) : fold 0 ((S.take (k + 1)).drop q) = soon (fold 0 ((S.take k).drop q)) (S[k]?.getD 0) := by
  have e : (S.take (k + 1)).drop q = (S.take k).drop q ++ [S[k]?.getD 0] := by
    rw [List.take_succ_eq_append_getElem h2, List.drop_append_of_le_length (by simp; omega)]
    simp [h2]
  rw [e, fold_snoc]

set_option maxHeartbeats 3200000 in
theorem walkM_in (a : Option Addr) (c : Nat) (S : List Int) (q : Nat) (hq : q < S.length) (hn : S.length ≤ 4096) (hz : noZero S = true) (hw : Hid (∀ t, t < S.length → -9223372036854775808 ≤ S[t]?.getD 0 ∧ S[t]?.getD 0 ≤ 9223372036854775807)) (w : World) (hS : RowIs w a S) :
    Calls Trym.prog 4 #[.slice a S.length c, .int .i64 q] w fun e w' => e = .returned (.bool true) ∧ Below w.heap.size w w' := by
  have h1 := zzM_calls a S.length c q (by unfold maxLen; omega)
  rw [decide_eq_true (by omega)] at h1
  have H1 : Hid (∀ w, Calls Trym.prog 12 #[.slice a S.length c, .int .i64 q] w fun e w' => e = .returned (.bool true) ∧ w = w') := h1
  have h2 := hasZero_calls a c S hn w hS
  rw [hz] at h2
  have H2 : Hid (Calls Trym.prog 6 #[.slice a S.length c] w fun e w' => e = .returned (.bool false) ∧ w = w') := h2
  clear h1 h2
  go_enter Trym.func4, Trym.ntmps4
  go_wp2_with fail
  refine (H1.out _).mono ?_; rintro e w' ⟨rfl, rfl⟩
  go_wp2_with fail
  refine H2.out.mono ?_; rintro e w' ⟨rfl, rfl⟩
  go_wp2_with fail
  go_loopw [7] (fun i wr => ∃ k : Nat, k ≤ q ∧ i = .int .i64 k ∧ TimeAt wr w.heap.size 0 ∧ TimeAt wr (w.heap.size + 1) (fold 0 (S.take k)) ∧ Below w.heap.size w wr) (fun i _ => q - (intOf i).toNat)
  case atStart =>
    refine ⟨0, Nat.zero_le _, rfl, ?_, ?_, ((Below.refl _ _).alloc (Nat.le_refl _) _).alloc (by simp) _⟩
    · exact (TimeAt.made w 0).later (B := w.heap.size + 1) ((Below.refl _ _).alloc (by simp) _) (by omega)
    · have := TimeAt.made (w.alloc (.cells #[.int .u64 0, .int .i64 0, .pointer none] 27)) 0
      simpa [fold] using this
  case round =>
  obtain ⟨k, hk, rfl, hT0, hT1, hbel⟩ := hrel
  by_cases hin : k < q
  · obtain ⟨b, off, rfl, hb, hc⟩ := hS (by omega)
    have hkS : k < S.length := by omega
    have ga := (hbel.cell (p := ⟨b, off + k, none⟩) hb).trans (hc k hkS)
    have hbd := hw.out k hkS
    have HF : Hid (fold 0 (S.take (k + 1)) = soon (fold 0 (S.take k)) (S[k]?.getD 0)) := by
      show _ = _
      rw [List.take_succ_eq_append_getElem hkS, fold_snoc]
      simp [hkS]
    clear hS hc
    generalize S[k]?.getD 0 = x at *
    generalize fold 0 (S.take k) = y at *
    have hsz := hT1.lt
    have n0 := Near.cellAt (B := wr.heap.size) (by omega) hT0.c0
    have n1 := Near.cellAt (B := wr.heap.size) (by omega) hT0.c1
    have n2 := Near.cellAt (B := wr.heap.size) (by omega) hT0.c2
    have n3 := Near.cellAt (B := wr.heap.size) (by omega) hT1.c0
    have n4 := Near.cellAt (B := wr.heap.size) (by omega) hT1.c1
    have n5 := Near.cellAt (B := wr.heap.size) (by omega) hT1.c2
    have n6 := Near.cellAt (B := wr.heap.size) (Nat.lt_of_lt_of_le hb hbel.size) ga
    have f3 := Near.openAt (B := wr.heap.size) (by omega) hT1.f0
    have f4 := Near.openAt (B := wr.heap.size) (by omega) hT1.f1
    have f5 := Near.openAt (B := wr.heap.size) (by omega) hT1.f2
    simp only [Int.zero_emod, Int.zero_ediv] at n0 n1
    have hne : Nonempty (Near wr.heap.size wr) := ⟨⟨wr, Below.refl _ _⟩⟩
    clear ga
    go_wp2_with fail
    refine wp_region_near_last wr.heap.size rfl (by kernel_rfl) rfl (by kernel_rfl) (by kernel_rfl) (by kernel_rfl) ?_
    dsimp only [List.dropLast, List.getLast]
    repeat (go_big_quiet_step (first | (go_at_call 8; exact near_call (Nat.le_refl _) _ (addL _ hbd _)) | (go_at_call 7; exact near_call (Nat.le_refl _) _ (zzL _ _ _))))
    refine wpQuiet_nil ?_
    rintro _ ⟨u, rfl⟩
    have HT0 : Hid (TimeAt (set3 u.w (w.heap.size + 1) (soon y x)) w.heap.size 0) := (hT0.later u.h (by omega)).beside (by omega) _
    have HT1 : Hid (TimeAt (set3 u.w (w.heap.size + 1) (soon y x)) (w.heap.size + 1) (soon y x)) := (hT1.later u.h (by omega)).stored _
    have HB : Hid (Below w.heap.size w (set3 u.w (w.heap.size + 1) (soon y x))) := below_set (hbel.trans (u.h.mono hbel.size)) (by omega) _
    clear n0 n1 n2 n6 hT0 hT1 hbel
    generalize soon y x = z at *
    go_wp2
    go_roundw
    case rel => exact ⟨k + 1, by omega, by go_num, HT0, by rw [HF.out]; exact HT1, HB⟩
    case measure => simp [intOf]; omega
  obtain rfl : k = q := by omega
  have z0 := hT0.c0
  have z1 := hT0.c1
  have z2 := hT0.c2
  simp only [Int.zero_emod, Int.zero_ediv] at z0 z1
  have hsz := hT1.lt
  have hwz := hbel.size
  go_wp2_with fail
  clear hin hk
  have HW : Hid (TimeAt (wr.alloc (.cells #[.int .u64 0, .int .i64 0, .pointer none] 27)) w.heap.size 0 ∧ TimeAt (wr.alloc (.cells #[.int .u64 0, .int .i64 0, .pointer none] 27)) (w.heap.size + 1) (fold 0 (S.take k)) ∧
      TimeAt (wr.alloc (.cells #[.int .u64 0, .int .i64 0, .pointer none] 27)) wr.heap.size 0 ∧ Below w.heap.size w (wr.alloc (.cells #[.int .u64 0, .int .i64 0, .pointer none] 27))) :=
    ⟨hT0.later (B := wr.heap.size) ((Below.refl _ _).alloc (Nat.le_refl _) _) (by omega), hT1.later (B := wr.heap.size) ((Below.refl _ _).alloc (Nat.le_refl _) _) (by omega), by simpa using TimeAt.made wr 0, hbel.alloc hbel.size _⟩
  clear z0 z1 z2 hT0 hT1 hbel
  generalize wr.alloc (.cells #[.int .u64 0, .int .i64 0, .pointer none] 27) = W2 at *
  generalize wr.heap.size = g2 at *
  obtain ⟨q, rfl⟩ : ∃ q, q = k := ⟨k, rfl⟩
  go_loopw [9] (fun i wr => ∃ k : Nat, q ≤ k ∧ k ≤ S.length ∧ i = .int .i64 k ∧ TimeAt wr w.heap.size 0 ∧ TimeAt wr (w.heap.size + 1) (fold 0 (S.take q)) ∧ TimeAt wr g2 (fold 0 ((S.take k).drop q)) ∧ Below w.heap.size w wr) (fun i _ => S.length - (intOf i).toNat)
  case atStart =>
    obtain ⟨q0, q1, q2, q3⟩ := HW.out
    refine ⟨q, Nat.le_refl _, by omega, rfl, q0, q1, ?_, q3⟩
    rw [List.drop_eq_nil_of_le (by simp; omega)]
    exact q2
  case round =>
  clear HW
  obtain ⟨k, hqk, hk, rfl, hT0, hT1, hT2, hbel⟩ := hrel
  by_cases hin : k < S.length
  · obtain ⟨b, off, rfl, hb, hc⟩ := hS (by omega)
    have ga := (hbel.cell (p := ⟨b, off + k, none⟩) hb).trans (hc k hin)
    have hbd := hw.out k hin
    have HF : Hid (fold 0 ((S.take (k + 1)).drop q) = soon (fold 0 ((S.take k).drop q)) (S[k]?.getD 0)) := fold_mid S q k hqk hin
    clear hS hc
    generalize S[k]?.getD 0 = x at *
    generalize fold 0 ((S.take k).drop q) = y at *
    generalize hF : fold 0 (S.take q) = fs at *
    have HFS : Hid (fold 0 (S.take q) = fs) := hF
    clear hF
    have hs2 := hT2.lt
    have n0 := Near.cellAt (B := wr.heap.size) (by omega) hT0.c0
    have n1 := Near.cellAt (B := wr.heap.size) (by omega) hT0.c1
    have n2 := Near.cellAt (B := wr.heap.size) (by omega) hT0.c2
    have n3 := Near.cellAt (B := wr.heap.size) (by omega) hT2.c0
    have n4 := Near.cellAt (B := wr.heap.size) (by omega) hT2.c1
    have n5 := Near.cellAt (B := wr.heap.size) (by omega) hT2.c2
    have n6 := Near.cellAt (B := wr.heap.size) (Nat.lt_of_lt_of_le hb hbel.size) ga
    have f3 := Near.openAt (B := wr.heap.size) (by omega) hT2.f0
    have f4 := Near.openAt (B := wr.heap.size) (by omega) hT2.f1
    have f5 := Near.openAt (B := wr.heap.size) (by omega) hT2.f2
    simp only [Int.zero_emod, Int.zero_ediv] at n0 n1
    have hne : Nonempty (Near wr.heap.size wr) := ⟨⟨wr, Below.refl _ _⟩⟩
    clear ga
    go_wp2_with fail
    refine wp_region_near_last wr.heap.size rfl (by kernel_rfl) rfl (by kernel_rfl) (by kernel_rfl) (by kernel_rfl) ?_
    dsimp only [List.dropLast, List.getLast]
    repeat (go_big_quiet_step (first | (go_at_call 8; exact near_call (Nat.le_refl _) _ (addL _ hbd _)) | (go_at_call 7; exact near_call (Nat.le_refl _) _ (zzL _ _ _))))
    refine wpQuiet_nil ?_
    rintro _ ⟨u, rfl⟩
    have HT0 : Hid (TimeAt (set3 u.w g2 (soon y x)) w.heap.size 0) := (hT0.later u.h (by omega)).beside (by omega) _
    have HT1 : Hid (TimeAt (set3 u.w g2 (soon y x)) (w.heap.size + 1) fs) := (hT1.later u.h (by omega)).beside (by omega) _
    have HT2 : Hid (TimeAt (set3 u.w g2 (soon y x)) g2 (soon y x)) := (hT2.later u.h (by omega)).stored _
    have HB : Hid (Below w.heap.size w (set3 u.w g2 (soon y x))) := below_set (hbel.trans (u.h.mono hbel.size)) (by omega) _
    clear n0 n1 n2 n6 hT0 hT1 hT2 hbel
    generalize soon y x = z at *
    go_wp2
    go_roundw
    case rel => exact ⟨k + 1, by omega, by omega, by go_num, HT0, HT1, by rw [HF.out]; exact HT2, HB⟩
    case measure => simp [intOf]; omega
  obtain rfl : k = S.length := by omega
  rw [List.take_length] at hT2
  clear hqk
  have p0 := hT1.c0
  have p1 := hT1.c1
  have p2 := hT1.c2
  have q0 := hT2.c0
  have q1 := hT2.c1
  have q2 := hT2.c2
  have hsz2 := hT2.lt
  have hs3 := hT1.lt
  have hall := (noZero_iff S).1 hz
  have hneR : S.drop q ≠ [] := fun e => by have := congrArg List.length e; simp at this; omega
  have hLR : IsLeast (fold 0 (S.drop q)) (S.drop q) := fold_is _ hneR (fun x hx => hall x (List.mem_of_mem_drop hx))
  have hA : IsLeast (leastAt S 0 S.length) S := by simpa using leastAt_is S 0 S.length (by omega) (Nat.le_refl _)
  have hR : IsLeast (leastAt S q S.length) (S.drop q) := by simpa using leastAt_is S q S.length hq (Nat.le_refl _)
  have HL : Hid (0 < q → IsLeast (fold 0 (S.take q)) (S.take q) ∧ IsLeast (leastAt S 0 q) (S.take q)) := fun h =>
    ⟨fold_is _ (fun e => by have := congrArg List.length e; simp only [List.length_take, List.length_nil] at this; omega) (fun x hx => hall x (List.mem_of_mem_take hx)), by simpa using leastAt_is S 0 q h (by omega)⟩
  have E1 : Hid (decide (soon (fold 0 (S.take q)) (fold 0 (S.drop q)) = leastAt S 0 S.length) = true) := by
    refine decide_eq_true (IsLeast.eq (S := S) ?_ hA)
    by_cases h0 : q = 0
    · subst h0
      simpa [fold, soon] using hLR
    · have h1 := (HL.out (by omega)).1
      have := soon_merge h1 hLR (h1.ne (fun x hx => hall x (List.mem_of_mem_take hx)))
      rwa [List.take_append_drop] at this
  have E2 : Hid (decide (fold 0 (S.drop q) = leastAt S q S.length) = true) := decide_eq_true (hLR.eq hR)
  have E3 : Hid (0 < q → decide (fold 0 (S.take q) = leastAt S 0 q) = true) := fun h => decide_eq_true ((HL.out h).1.eq (HL.out h).2)
  have E4 : Hid (q = 0 → decide (fold 0 (S.take q) = 0) = true) := fun h => by subst h; rfl
  have B1 := leastAt_bd hw.out 0 S.length (by omega) (Nat.le_refl _)
  have B2 := leastAt_bd hw.out q S.length hq (Nat.le_refl _)
  have B3 : Hid (0 < q → _) := fun h => leastAt_bd hw.out 0 q h (by omega)
  have HL1 : Hid (∀ w, RowIs w a S → _) := leastOf_calls a c S 0 S.length hn (by omega) (Nat.le_refl _)
  have HL2 : Hid (∀ w, RowIs w a S → _) := leastOf_calls a c S q S.length hn hq (Nat.le_refl _)
  have HL3 : Hid (∀ h : 0 < q, ∀ w, RowIs w a S → _) := fun h => leastOf_calls a c S 0 q hn h (by omega)
  have hRow := hS.later hbel
  clear hS hall hneR hLR hA hR HL hw hz
  generalize leastAt S 0 S.length = d1 at *
  generalize leastAt S q S.length = d2 at *
  generalize leastAt S 0 q = d3 at *
  generalize fold 0 (S.take q) = x1 at *
  generalize fold 0 (S.drop q) = x2 at *
  go_wp2_with fail
  refine (zzL _ _ _).mono ?_
  rintro e w5 ⟨rfl, hb5⟩
  generalize soon x1 x2 = x3 at *
  have HX : Hid (TimeAt (w5.alloc (.cells #[.int .u64 (x3 % 1000000000), .int .i64 (x3 / 1000000000), .pointer none] 27)) w.heap.size 0 ∧ TimeAt (w5.alloc (.cells #[.int .u64 (x3 % 1000000000), .int .i64 (x3 / 1000000000), .pointer none] 27)) (w.heap.size + 1) x1 ∧
      TimeAt (w5.alloc (.cells #[.int .u64 (x3 % 1000000000), .int .i64 (x3 / 1000000000), .pointer none] 27)) g2 x2 ∧ TimeAt (w5.alloc (.cells #[.int .u64 (x3 % 1000000000), .int .i64 (x3 / 1000000000), .pointer none] 27)) w5.heap.size x3 ∧
      RowIs (w5.alloc (.cells #[.int .u64 (x3 % 1000000000), .int .i64 (x3 / 1000000000), .pointer none] 27)) a S ∧ Below w.heap.size w (w5.alloc (.cells #[.int .u64 (x3 % 1000000000), .int .i64 (x3 / 1000000000), .pointer none] 27))) :=
    have hq5 := hb5.alloc hb5.size (.cells #[.int .u64 (x3 % 1000000000), .int .i64 (x3 / 1000000000), .pointer none] 27)
    ⟨hT0.later hq5 hT0.lt, hT1.later hq5 hs3, hT2.later hq5 hsz2, TimeAt.made w5 x3, hRow.later hq5, hbel.trans (hq5.mono hbel.size)⟩
  clear p0 p1 p2 q0 q1 q2 hT0 hT1 hT2 hbel hRow hsz2 hs3 hsz hwz hb5
  go_wp2_with fail
  generalize w5.alloc (.cells #[.int .u64 (x3 % 1000000000), .int .i64 (x3 / 1000000000), .pointer none] 27) = X at *
  generalize w5.heap.size = g4 at *
  obtain ⟨t0, t1, t2, t3, hRow, hbX⟩ := HX.out
  clear HX
  have n0 := Near.cellAt t0.lt t0.c0
  have n1 := Near.cellAt t0.lt t0.c1
  have n2 := Near.cellAt t0.lt t0.c2
  have n3 := Near.cellAt t1.lt t1.c0
  have n4 := Near.cellAt t1.lt t1.c1
  have n5 := Near.cellAt t1.lt t1.c2
  have n6 := Near.cellAt t2.lt t2.c0
  have n7 := Near.cellAt t2.lt t2.c1
  have n8 := Near.cellAt t2.lt t2.c2
  have n9 := Near.cellAt t3.lt t3.c0
  have n10 := Near.cellAt t3.lt t3.c1
  have n11 := Near.cellAt t3.lt t3.c2
  have hne : Nonempty (Near X.heap.size X) := ⟨⟨X, Below.refl _ _⟩⟩
  simp only [Int.zero_emod, Int.zero_ediv] at n0 n1
  clear t0 t1 t2 t3
  refine wp_region_near X.heap.size (by kernel_rfl) (by kernel_rfl) ?_
  repeat (go_big_quiet_step (first | (go_at_call 10; exact near_same _ (HL1.out _ (hRow.later (Near.h _)))) | (go_at_call 8; exact near_call (Nat.le_refl _) _ (addL _ B1 _)) | (go_at_call 11; exact near_call (Nat.le_refl _) _ (equalL _ _ true E1.out _))))
  refine wpQuiet_nil ?_
  rintro _ ⟨u1, rfl⟩
  go_wp2_with fail
  refine wp_region_near' u1 (by kernel_rfl) (by kernel_rfl) ?_
  repeat (go_big_quiet_step (first | (go_at_call 10; exact near_same _ (HL2.out _ (hRow.later (Near.h _)))) | (go_at_call 8; exact near_call (Nat.le_refl _) _ (addL _ B2 _)) | (go_at_call 11; exact near_call (Nat.le_refl _) _ (equalL _ _ true E2.out _))))
  refine wpQuiet_nil ?_
  rintro _ ⟨u2, rfl⟩
  by_cases h0 : q = 0
  · have h0' : ((q : Int) == 0) = true := beq_iff_eq.2 (by omega)
    go_wp2_with fail
    refine (near_call (Nat.le_refl _) _ (isZeroL _ true (E4.out h0) _)).mono ?_
    rintro e _ ⟨rfl, u3, rfl⟩
    go_wp2_with fail
    go_ret
    exact ⟨rfl, hbX.trans (u3.h.mono hbX.size)⟩
  · have h0' : ((q : Int) == 0) = false := beq_eq_false_iff_ne.2 (by omega)
    have hpos : 0 < q := by omega
    have E3' := E3.out hpos
    have B3' := B3.out hpos
    have HL3' : Hid (∀ w, RowIs w a S → _) := HL3.out hpos
    have HE3 : Hid (decide (x1 = d3) = true) := E3'
    clear E3' HL3 B3 E3
    go_wp2_with fail
    refine wp_region_near' u2 (by kernel_rfl) (by kernel_rfl) ?_
    repeat (go_big_quiet_step (first | (go_at_call 10; exact near_same _ (HL3'.out _ (hRow.later (Near.h _)))) | (go_at_call 8; exact near_call (Nat.le_refl _) _ (addL _ B3' _)) | (go_at_call 11; exact near_call (Nat.le_refl _) _ (equalL _ _ true HE3.out _))))
    refine wpQuiet_nil ?_
    rintro _ ⟨u3, rfl⟩
    go_wp2_with fail
    go_ret
    exact ⟨rfl, hbX.trans (u3.h.mono hbX.size)⟩
end Go.Proofs.Qxb6608639aMods
