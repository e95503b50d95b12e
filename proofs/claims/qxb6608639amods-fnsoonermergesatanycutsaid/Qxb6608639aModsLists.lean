/-
  CONTRACTS of hasZero, leastOf and the bounds; the plain law of 'sooner'.
-/
import Derived.Test.Qxb6608639aModsAdd
namespace Go.Proofs.Qxb6608639aMods
open Go.RowKit

/-! ### Plain -/
def noZero (S : List Int) : Bool := S.all fun x => x != 0
/-- The least of a list that begins with 'm'. -/
def least (m : Int) : List Int → Int
  | [] => m
  | x :: l => least (if x < m then x else m) l
/-- The deadline gathered from the left. -/
def fold (a : Int) : List Int → Int
  | [] => a
  | x :: l => fold (soon a x) l

theorem fold_snoc (a : Int) (l : List Int) (x : Int) : fold a (l ++ [x]) = soon (fold a l) x := by
  induction l generalizing a with
  | nil => rfl
  | cons y l ih => simp [fold, ih]
theorem fold_back (S : List Int) (k : Nat) (h : k < S.length) : fold 0 ((S.drop k).reverse) = soon (fold 0 ((S.drop (k + 1)).reverse)) (S[k]?.getD 0) := by
  rw [List.drop_eq_getElem_cons h, List.reverse_cons, fold_snoc]
  simp [h]
theorem least_snoc (m : Int) (l : List Int) (x : Int) : least m (l ++ [x]) = if x < least m l then x else least m l := by
  induction l generalizing m with
  | nil => rfl
  | cons y l ih =>
    simp only [List.cons_append, least]
    exact ih _

/-- The least is at most each, and is one of them. -/
theorem least_spec (m : Int) (l : List Int) : (least m l = m ∨ least m l ∈ l) ∧ least m l ≤ m ∧ ∀ x ∈ l, least m l ≤ x := by
  induction l generalizing m with
  | nil => simp [least]
  | cons y l ih =>
    obtain ⟨h1, h2, h3⟩ := ih (if y < m then y else m)
    simp only [least]
    refine ⟨?_, ?_, ?_⟩
    · rcases h1 with h1 | h1
      · rw [h1]
        split
        · exact .inr (by simp)
        · exact .inl rfl
      · exact .inr (by simp [h1])
    · refine Int.le_trans h2 ?_
      split <;> omega
    · intro x hx
      rcases List.mem_cons.1 hx with rfl | hx
      · refine Int.le_trans h2 ?_
        split <;> omega
      · exact h3 x hx

/-- A number that is one of the list and at most each of it. -/
def IsLeast (v : Int) (S : List Int) : Prop := v ∈ S ∧ ∀ x ∈ S, v ≤ x
theorem IsLeast.eq {v u : Int} {S : List Int} (h : IsLeast v S) (k : IsLeast u S) : v = u := by
  have h1 := h.2 u k.1
  have h2 := k.2 v h.1
  omega
theorem least_is (m : Int) (l : List Int) : IsLeast (least m l) (m :: l) := by
  obtain ⟨h1, h2, h3⟩ := least_spec m l
  refine ⟨?_, ?_⟩
  · rcases h1 with h1 | h1
    · rw [h1]; simp
    · simp [h1]
  · intro x hx
    rcases List.mem_cons.1 hx with rfl | hx
    · exact h2
    · exact h3 x hx
theorem fold_from (a : Int) (l : List Int) (ha : a ≠ 0) (hl : ∀ x ∈ l, x ≠ 0) : IsLeast (fold a l) (a :: l) := by
  induction l generalizing a with
  | nil => exact ⟨by simp [fold], by simp [fold]⟩
  | cons y l ih =>
    have hy : y ≠ 0 := hl y (by simp)
    have hs : soon a y = if y < a then y else a := by simp [soon, ha]
    have hs0 : soon a y ≠ 0 := by rw [hs]; split <;> assumption
    obtain ⟨h1, h2⟩ := ih (soon a y) hs0 (fun x hx => hl x (by simp [hx]))
    simp only [fold]
    have h3 := h2 (soon a y) (by simp)
    refine ⟨?_, ?_⟩
    · rcases List.mem_cons.1 h1 with h1 | h1
      · rw [h1, hs]
        split <;> simp
      · simp [h1]
    · intro x hx
      rcases List.mem_cons.1 hx with rfl | hx
      · refine Int.le_trans h3 ?_
        rw [hs]; split <;> omega
      · rcases List.mem_cons.1 hx with rfl | hx
        · refine Int.le_trans h3 ?_
          rw [hs]; split <;> omega
        · exact h2 x (by simp [hx])
theorem fold_is (S : List Int) (hne : S ≠ []) (hl : ∀ x ∈ S, x ≠ 0) : IsLeast (fold 0 S) S := by
  cases S with
  | nil => exact absurd rfl hne
  | cons y l =>
    simp only [fold]
    have : soon 0 y = y := by simp [soon]
    rw [this]
    exact fold_from y l (hl y (by simp)) (fun x hx => hl x (by simp [hx]))
theorem IsLeast.perm {v : Int} {S T : List Int} (h : IsLeast v S) (hST : ∀ x, x ∈ S ↔ x ∈ T) : IsLeast v T :=
  ⟨(hST v).1 h.1, fun x hx => h.2 x ((hST x).2 hx)⟩
theorem IsLeast.ne {v : Int} {S : List Int} (h : IsLeast v S) (hl : ∀ x ∈ S, x ≠ 0) : v ≠ 0 := hl v h.1
/-- Merged: the least of both parts. -/
theorem soon_merge {u v : Int} {S T : List Int} (h : IsLeast u S) (k : IsLeast v T) (hu : u ≠ 0) : IsLeast (soon u v) (S ++ T) := by
  have hs : soon u v = if v < u then v else u := by simp [soon, hu]
  rw [hs]
  split
  · exact ⟨by simp [k.1], fun x hx => by
      rcases List.mem_append.1 hx with hx | hx
      · have := h.2 x hx; omega
      · exact k.2 x hx⟩
  · exact ⟨by simp [h.1], fun x hx => by
      rcases List.mem_append.1 hx with hx | hx
      · exact h.2 x hx
      · have := k.2 x hx; omega⟩
theorem soon_none (v : Int) : soon 0 v = v := by simp [soon]

/-- The least of the elements from lo to hi. -/
def leastAt (S : List Int) (lo hi : Nat) : Int := least (S[lo]?.getD 0) ((S.take hi).drop (lo + 1))
theorem leastAt_is (S : List Int) (lo hi : Nat) (h1 : lo < hi) (h2 : hi ≤ S.length) : IsLeast (leastAt S lo hi) ((S.take hi).drop lo) := by
  have e : (S.take hi).drop lo = S[lo]?.getD 0 :: (S.take hi).drop (lo + 1) := by
    rw [List.drop_eq_getElem_cons (by simp; omega)]
    simp [show lo < S.length by omega]
  rw [e]
  exact least_is _ _
theorem noZero_iff (S : List Int) : noZero S = true ↔ ∀ x ∈ S, x ≠ 0 := by
  simp [noZero]

/-! ### Walks -/
/-- Numbers that came in: where there is one they lie in a row of old memory. -/
def RowIs (w : World) (a : Option Addr) (S : List Int) : Prop :=
  0 < S.length → ∃ b off, a = some ⟨b, off, none⟩ ∧ b < w.heap.size ∧ ∀ t, t < S.length → w.cell? ⟨b, off + t, none⟩ = some (.int .i64 (S[t]?.getD 0))
theorem RowIs.later {w w' : World} {a : Option Addr} {S : List Int} (h : RowIs w a S) (hb : Below w.heap.size w w') : RowIs w' a S := by
  intro hp
  obtain ⟨b, off, ha, hlt, hc⟩ := h hp
  exact ⟨b, off, ha, Nat.lt_of_lt_of_le hlt hb.size, fun t ht => (hb.cell (p := ⟨b, off + t, none⟩) hlt).trans (hc t ht)⟩

theorem zzF_calls (a0 : Option Addr) (n c : Nat) (hn : n ≤ maxLen) (w : World) : Calls Trym.prog 5 #[.slice a0 n c] w fun e w' => e = .returned (.bool (decide (n ≤ 1048576))) ∧ w = w' := by
  unfold maxLen at hn
  by_cases h : n ≤ 1048576
  · rw [decide_eq_true h]
    go_enter Trym.func5, Trym.ntmps5
    go_wp2
    go_ret
    exact ⟨rfl, rfl⟩
  · rw [decide_eq_false h]
    go_enter Trym.func5, Trym.ntmps5
    go_wp2
    go_ret
    exact ⟨rfl, rfl⟩

theorem zzM_calls (a0 : Option Addr) (n c : Nat) (k : Int) (hn : n ≤ maxLen) (w : World) : Calls Trym.prog 12 #[.slice a0 n c, .int .i64 k] w fun e w' => e = .returned (.bool (decide (n ≤ 1048576))) ∧ w = w' := by
  unfold maxLen at hn
  by_cases h : n ≤ 1048576
  · rw [decide_eq_true h]
    go_enter Trym.func12, Trym.ntmps12
    go_wp2
    go_ret
    exact ⟨rfl, rfl⟩
  · rw [decide_eq_false h]
    go_enter Trym.func12, Trym.ntmps12
    go_wp2
    go_ret
    exact ⟨rfl, rfl⟩

set_option maxHeartbeats 800000 in
theorem hasZero_calls (a : Option Addr) (c : Nat) (S : List Int) (hn : S.length ≤ 4096) (w : World) (hS : RowIs w a S) :
    Calls Trym.prog 6 #[.slice a S.length c] w fun e w' => e = .returned (.bool (!noZero S)) ∧ w = w' := by
  go_enter Trym.func6, Trym.ntmps6
  go_wp2
  go_loop [3] (fun i => ∃ k : Nat, k ≤ S.length ∧ i = .int .i64 k ∧ Hid (∀ t, t < k → S[t]?.getD 0 ≠ 0)) (fun i => S.length - (intOf i).toNat)
  case atStart => exact ⟨0, Nat.zero_le _, rfl, fun t h => absurd h (Nat.not_lt_zero _)⟩
  case round =>
    obtain ⟨k, hk, rfl, HK⟩ := hrel
    by_cases hin : k < S.length
    · obtain ⟨b, off, rfl, hb, hc⟩ := hS (by omega)
      have ga := hc k hin
      by_cases hz : S[k]?.getD 0 = 0
      · have HE : Hid (noZero S = false) := by
          show _ = _
          rw [Bool.eq_false_iff]
          intro h
          have := (noZero_iff S).1 h (S[k]?.getD 0) (by simp [hin])
          exact this hz
        rw [hz] at ga
        clear hc hz HK
        go_wp2
        go_ret
        exact ⟨ret_bool (by rw [HE.out]; rfl), rfl⟩
      · have HK' : Hid (∀ t, t < k + 1 → S[t]?.getD 0 ≠ 0) := by
          intro t ht
          by_cases e : t = k
          · rw [e]; exact hz
          · exact HK.out t (by omega)
        have hz' : (S[k]?.getD 0 == 0) = false := beq_eq_false_iff_ne.2 hz
        clear hc hz HK
        generalize S[k]?.getD 0 = x at *
        go_wp2
        go_round
        case rel => exact ⟨k + 1, by omega, by go_num, HK'⟩
        case measure => simp [intOf]; omega
    · have HE : Hid (noZero S = true) := by
        show _ = _
        rw [noZero_iff]
        intro x hx
        obtain ⟨i, hi, rfl⟩ := List.getElem_of_mem hx
        have := HK.out i (by omega)
        simpa [hi] using this
      clear HK
      go_wp2
      go_ret
      exact ⟨ret_bool (by rw [HE.out]; rfl), rfl⟩

theorem ret_int {k : IntKind} {a b : Int} (h : a = b) : Ending.returned (.int k a) = .returned (.int k b) := by rw [h]

theorem leastAt_step (S : List Int) (lo k : Nat) (h1 : lo < k) (h2 : k < S.length) : leastAt S lo (k + 1) = if S[k]?.getD 0 < leastAt S lo k then S[k]?.getD 0 else leastAt S lo k := by
  unfold leastAt
  have e : (S.take (k + 1)).drop (lo + 1) = (S.take k).drop (lo + 1) ++ [S[k]?.getD 0] := by
    rw [List.take_succ_eq_append_getElem h2, List.drop_append_of_le_length (by simp; omega)]
    simp [h2]
  rw [e, least_snoc]

set_option maxHeartbeats 800000 in
theorem leastOf_calls (a : Option Addr) (c : Nat) (S : List Int) (lo hi : Nat) (hn : S.length ≤ 4096) (h1 : lo < hi) (h2 : hi ≤ S.length) (w : World) (hS : RowIs w a S) :
    Calls Trym.prog 10 #[.slice a S.length c, .int .i64 lo, .int .i64 hi] w fun e w' => e = .returned (.int .i64 (leastAt S lo hi)) ∧ w = w' := by
  obtain ⟨b, off, rfl, hb, hc⟩ := hS (by omega)
  have g0 := hc lo (by omega)
  have HL : Hid (leastAt S lo (lo + 1) = S[lo]?.getD 0) := by
    show _ = _
    unfold leastAt
    rw [List.drop_eq_nil_of_le (by simp; omega)]
    rfl
  have hlo : lo < S.length := by omega
  have HCE : Hid (∀ t, t < S.length → w.cell? ⟨b, off + t, none⟩ = some (.int .i64 (S[t]?.getD 0))) := hc
  clear hS hc
  generalize S[lo]?.getD 0 = y at *
  go_enter Trym.func10, Trym.ntmps10
  go_wp2
  go_loop [7, 8] (fun m i => ∃ k : Nat, lo < k ∧ k ≤ hi ∧ i = .int .i64 k ∧ m = .int .i64 (leastAt S lo k)) (fun _ i => hi - (intOf i).toNat)
  case atStart => exact ⟨lo + 1, by omega, by omega, by go_num, by rw [HL.out]⟩
  case round =>
    obtain ⟨k, hk1, hk2, rfl, rfl⟩ := hrel
    by_cases hin : k < hi
    · have ga := HCE.out k (by omega)
      have HE : Hid (leastAt S lo (k + 1) = if S[k]?.getD 0 < leastAt S lo k then S[k]?.getD 0 else leastAt S lo k) := leastAt_step S lo k hk1 (by omega)
      have hkl : k < S.length := by omega
      clear g0 HL
      generalize S[k]?.getD 0 = x at *
      generalize leastAt S lo k = m at *
      by_cases hx : x < m
      · have HE' : Hid (leastAt S lo (k + 1) = x) := by rw [HE.out, if_pos hx]; exact Eq.refl _
        clear HE
        go_wp2
        go_round
        case rel => exact ⟨k + 1, by omega, by omega, by go_num, by rw [HE'.out]⟩
        case measure => simp [intOf]; omega
      · have HE' : Hid (leastAt S lo (k + 1) = m) := by rw [HE.out, if_neg hx]; exact Eq.refl _
        clear HE
        go_wp2
        go_round
        case rel => exact ⟨k + 1, by omega, by omega, by go_num, by rw [HE'.out]⟩
        case measure => simp [intOf]; omega
    · obtain rfl : k = hi := by omega
      clear g0 HL
      go_wp2
      go_ret
      exact ⟨rfl, rfl⟩
end Go.Proofs.Qxb6608639aMods
