/-
  THE PLAIN MATHEMATICS of the seat's two laws on UTF-16 keys: no Go in sight.
-/
namespace Go.Proofs.Qxb6618147aMods.U16

/-- A Unicode scalar value. -/
def isCh (r : Int) : Bool := decide (0 ≤ r ∧ r ≤ 1114111 ∧ ¬ (55296 ≤ r ∧ r ≤ 57343))
/-- Its UTF-16 code units. -/
def units (r : Int) : List Int := if r < 65536 then [r] else [55296 + (r - 65536) / 1024, 56320 + (r - 65536) % 1024]
/-- The key. -/
def key (r : Int) : Int := if 65536 ≤ r then r - 65536 + 55296 else if 57344 ≤ r then r + 1048576 else r
def cmpI (a b : Int) : Int := if a < b then -1 else if b < a then 1 else 0
def cmpL : List Int → List Int → Int
  | [], [] => 0
  | [], _ :: _ => -1
  | _ :: _, [] => 1
  | x :: xs, y :: ys => if x < y then -1 else if y < x then 1 else cmpL xs ys
/-- By keys, character by character, a proper prefix first. -/
def cmpK : List Int → List Int → Int
  | [], [] => 0
  | [], _ :: _ => -1
  | _ :: _, [] => 1
  | x :: xs, y :: ys => if cmpI (key x) (key y) = 0 then cmpK xs ys else cmpI (key x) (key y)

theorem isCh_iff (r : Int) : isCh r = true ↔ 0 ≤ r ∧ r ≤ 1114111 ∧ ¬ (55296 ≤ r ∧ r ≤ 57343) := by unfold isCh; exact decide_eq_true_iff

theorem cmpL_self (a : List Int) (A B : List Int) : cmpL (a ++ A) (a ++ B) = cmpL A B := by
  induction a with
  | nil => rfl
  | cons x xs ih => simp [cmpL, ih]

/-- One character's step. -/
theorem cmpL_units (x y : Int) (hx : isCh x = true) (hy : isCh y = true) (A B : List Int) :
    cmpL (units x ++ A) (units y ++ B) = if cmpI (key x) (key y) = 0 then cmpL A B else cmpI (key x) (key y) := by
  rw [isCh_iff] at hx hy
  by_cases e : x = y
  · subst e
    rw [cmpL_self]
    simp [cmpI]
  · have hk : key x ≠ key y := by unfold key; split <;> split <;> (try split) <;> (try split) <;> omega
    rcases Int.lt_or_gt_of_ne hk with h | h
    · have h1 : cmpI (key x) (key y) = -1 := by simp [cmpI, h]
      rw [h1]
      simp only [Int.reduceNeg, Int.reduceEq, if_false]
      unfold units
      unfold key at h
      by_cases c1 : x < 65536 <;> by_cases c2 : y < 65536 <;> simp only [c1, c2, if_true, if_false, List.cons_append, List.nil_append, cmpL]
      · rw [if_pos (by split at h <;> split at h <;> (try split at h) <;> omega)]
      · rw [if_pos (by split at h <;> split at h <;> (try split at h) <;> omega)]
      · rw [if_pos (by split at h <;> split at h <;> (try split at h) <;> omega)]
      · have hxy : x < y := by split at h <;> split at h <;> (try split at h) <;> omega
        by_cases c3 : 55296 + (x - 65536) / 1024 < 55296 + (y - 65536) / 1024
        · rw [if_pos c3]
        · rw [if_neg c3, if_neg (by omega), if_pos (by omega)]
    · have h1 : cmpI (key x) (key y) = 1 := by simp [cmpI, h]; omega
      rw [h1]
      simp only [Int.reduceEq, if_false]
      unfold units
      unfold key at h
      by_cases c1 : x < 65536 <;> by_cases c2 : y < 65536 <;> simp only [c1, c2, if_true, if_false, List.cons_append, List.nil_append, cmpL]
      · have : y < x := by split at h <;> split at h <;> (try split at h) <;> omega
        rw [if_neg (by omega), if_pos this]
      · have : 55296 + (y - 65536) / 1024 < x := by split at h <;> split at h <;> (try split at h) <;> omega
        rw [if_neg (by omega), if_pos this]
      · have : y < 55296 + (x - 65536) / 1024 := by split at h <;> split at h <;> (try split at h) <;> omega
        rw [if_neg (by omega), if_pos this]
      · have hxy : y < x := by split at h <;> split at h <;> (try split at h) <;> omega
        by_cases c3 : 55296 + (y - 65536) / 1024 < 55296 + (x - 65536) / 1024
        · rw [if_neg (by omega), if_pos c3]
        · rw [if_neg (by omega), if_neg c3, if_neg (by omega), if_pos (by omega)]

/-- THE FIRST LAW. -/
theorem law1 (x y : Int) (hx : isCh x = true) (hy : isCh y = true) : cmpI (key x) (key y) = cmpL (units x) (units y) := by
  have h := cmpL_units x y hx hy [] []
  simp only [List.append_nil] at h
  rw [h]
  split
  · next h => rw [h]; rfl
  · rfl

theorem units_ne (x : Int) : ∃ a l, units x = a :: l := by
  unfold units
  split
  · exact ⟨_, _, rfl⟩
  · exact ⟨_, _, rfl⟩

/-- THE SECOND LAW. -/
theorem law2 (s t : List Int) (hs : ∀ r ∈ s, isCh r = true) (ht : ∀ r ∈ t, isCh r = true) : cmpK s t = cmpL (s.flatMap units) (t.flatMap units) := by
  induction s generalizing t with
  | nil =>
    cases t with
    | nil => rfl
    | cons y ys =>
      obtain ⟨a, l, h⟩ := units_ne y
      simp [cmpK, List.flatMap_cons, h, cmpL]
  | cons x xs ih =>
    cases t with
    | nil =>
      obtain ⟨a, l, h⟩ := units_ne x
      simp [cmpK, List.flatMap_cons, h, cmpL]
    | cons y ys =>
      rw [List.flatMap_cons, List.flatMap_cons, cmpL_units x y (hs x (by simp)) (ht y (by simp))]
      simp only [cmpK]
      rw [ih ys (fun r h => hs r (by simp [h])) (fun r h => ht r (by simp [h]))]

/-! ### For the loops -/
/-- Where one of the two is at its end the lengths decide. -/
theorem cmpL_end (A B : List Int) (h : A = [] ∨ B = []) : cmpL A B = cmpI A.length B.length := by
  rcases h with rfl | rfl
  · cases B with
    | nil => rfl
    | cons b l => simp [cmpL, cmpI]
  · cases A with
    | nil => rfl
    | cons a l => simp [cmpL, cmpI]; omega

theorem cmpI_nat (a b k : Nat) (ha : k ≤ a) (hb : k ≤ b) : cmpI ((a - k : Nat) : Int) ((b - k : Nat) : Int) = cmpI a b := by
  unfold cmpI
  by_cases h1 : a < b
  · rw [if_pos (by omega), if_pos (by omega)]
  · by_cases h2 : b < a
    · rw [if_neg (by omega), if_pos (by omega), if_neg (by omega), if_pos (by omega)]
    · rw [if_neg (by omega), if_neg (by omega), if_neg (by omega), if_neg (by omega)]

theorem cmpL_stop (A B : List Int) (k : Nat) (ha : k ≤ A.length) (hb : k ≤ B.length) (h : k = A.length ∨ k = B.length) : cmpL (A.drop k) (B.drop k) = cmpI A.length B.length := by
  rw [cmpL_end _ _ (by rcases h with h | h <;> simp [h])]
  rw [List.length_drop, List.length_drop, cmpI_nat _ _ _ ha hb]

theorem drop_one (A : List Int) (k : Nat) (h : k < A.length) : A.drop k = A[k]?.getD 0 :: A.drop (k + 1) := by
  rw [List.drop_eq_getElem_cons h]
  simp [h]

theorem cmpL_lt (A B : List Int) (k : Nat) (ha : k < A.length) (hb : k < B.length) (h : A[k]?.getD 0 < B[k]?.getD 0) : cmpL (A.drop k) (B.drop k) = -1 := by
  rw [drop_one A k ha, drop_one B k hb, cmpL, if_pos h]

theorem cmpL_gt (A B : List Int) (k : Nat) (ha : k < A.length) (hb : k < B.length) (h : B[k]?.getD 0 < A[k]?.getD 0) : cmpL (A.drop k) (B.drop k) = 1 := by
  rw [drop_one A k ha, drop_one B k hb, cmpL, if_neg (by omega), if_pos h]

theorem cmpL_eq (A B : List Int) (k : Nat) (ha : k < A.length) (hb : k < B.length) (h : ¬ A[k]?.getD 0 < B[k]?.getD 0) (h' : ¬ B[k]?.getD 0 < A[k]?.getD 0) : cmpL (A.drop (k + 1)) (B.drop (k + 1)) = cmpL (A.drop k) (B.drop k) := by
  rw [drop_one A k ha, drop_one B k hb, cmpL, if_neg h, if_neg h']

theorem units_le (x : Int) : (units x).length ≤ 2 := by
  unfold units
  split <;> simp

theorem cmpI_012 (a b : Int) : cmpI a b = -1 ∨ cmpI a b = 0 ∨ cmpI a b = 1 := by
  unfold cmpI
  split
  · simp
  · split <;> simp

/-! ### For the second law's walk -/
def enc (l : List Int) : List Int := l.flatMap units
theorem enc_len (l : List Int) : (enc l).length ≤ 2 * l.length := by
  induction l with
  | nil => simp [enc]
  | cons x xs ih =>
    have := units_le x
    simp only [enc, List.flatMap_cons, List.length_append, List.length_cons] at ih ⊢
    omega
theorem take_snoc (S : List Int) (k : Nat) (h : k < S.length) : S.take (k + 1) = S.take k ++ [S[k]?.getD 0] := by
  rw [List.take_succ_eq_append_getElem h]
  simp [h]
theorem enc_snoc (S : List Int) (k : Nat) (h : k < S.length) : enc (S.take (k + 1)) = enc (S.take k) ++ units (S[k]?.getD 0) := by
  rw [take_snoc S k h]
  simp [enc]
theorem enc_take_len (S : List Int) (k : Nat) : (enc (S.take k)).length ≤ 2 * k := by
  have h := enc_len (S.take k)
  have : (S.take k).length ≤ k := List.length_take_le _ _
  omega
theorem all_of (S : List Int) (h : ∀ t, t < S.length → isCh (S[t]?.getD 0) = true) : ∀ r ∈ S, isCh r = true := by
  intro r hr
  obtain ⟨i, hi, rfl⟩ := List.getElem_of_mem hr
  have := h i hi
  simpa [hi] using this
theorem law2' (S T : List Int) (hs : ∀ t, t < S.length → isCh (S[t]?.getD 0) = true) (ht : ∀ t, t < T.length → isCh (T[t]?.getD 0) = true) : cmpK S T = cmpL (enc S) (enc T) :=
  law2 S T (all_of S hs) (all_of T ht)

theorem cmpK_end (A B : List Int) (h : A = [] ∨ B = []) : cmpK A B = cmpI A.length B.length := by
  rcases h with rfl | rfl
  · cases B with
    | nil => rfl
    | cons b l => simp [cmpK, cmpI]
  · cases A with
    | nil => rfl
    | cons a l => simp [cmpK, cmpI]; omega

theorem cmpK_stop (A B : List Int) (k : Nat) (ha : k ≤ A.length) (hb : k ≤ B.length) (h : k = A.length ∨ k = B.length) : cmpK (A.drop k) (B.drop k) = cmpI A.length B.length := by
  rw [cmpK_end _ _ (by rcases h with h | h <;> simp [h])]
  rw [List.length_drop, List.length_drop, cmpI_nat _ _ _ ha hb]

theorem cmpK_step (A B : List Int) (k : Nat) (ha : k < A.length) (hb : k < B.length) :
    cmpK (A.drop k) (B.drop k) = if cmpI (key (A[k]?.getD 0)) (key (B[k]?.getD 0)) = 0 then cmpK (A.drop (k + 1)) (B.drop (k + 1)) else cmpI (key (A[k]?.getD 0)) (key (B[k]?.getD 0)) := by
  rw [drop_one A k ha, drop_one B k hb, cmpK]

/-- What the last loop knows: after k rounds, 'got' is 0 and the rest decides, or 'got' is the answer. -/
def Got (S T : List Int) (k : Nat) (g : Int) : Prop := (g = 0 ∧ cmpK (S.drop k) (T.drop k) = cmpK S T) ∨ (g ≠ 0 ∧ g = cmpK S T)
theorem Got.zero (S T : List Int) : Got S T 0 0 := .inl ⟨rfl, by simp⟩
theorem Got.step {S T : List Int} {k : Nat} (h : Got S T k 0) (ha : k < S.length) (hb : k < T.length) : Got S T (k + 1) (cmpI (key (S[k]?.getD 0)) (key (T[k]?.getD 0))) := by
  rcases h with ⟨-, h⟩ | ⟨h, -⟩
  · rw [cmpK_step S T k ha hb] at h
    by_cases e : cmpI (key (S[k]?.getD 0)) (key (T[k]?.getD 0)) = 0
    · rw [if_pos e] at h
      exact .inl ⟨e, h⟩
    · rw [if_neg e] at h
      exact .inr ⟨e, h⟩
  · exact absurd rfl h
theorem Got.out {S T : List Int} {k : Nat} {g : Int} (h : Got S T k g) (hg : g ≠ 0) : g = cmpK S T := by
  rcases h with ⟨h, -⟩ | ⟨-, h⟩
  · exact absurd h hg
  · exact h
theorem Got.last {S T : List Int} {k : Nat} (h : Got S T k 0) (ha : k ≤ S.length) (hb : k ≤ T.length) (e : k = S.length ∨ k = T.length) : cmpI S.length T.length = cmpK S T := by
  rcases h with ⟨-, h⟩ | ⟨h, -⟩
  · rw [cmpK_stop S T k ha hb e] at h
    exact h
  · exact absurd rfl h
end Go.Proofs.Qxb6618147aMods.U16
