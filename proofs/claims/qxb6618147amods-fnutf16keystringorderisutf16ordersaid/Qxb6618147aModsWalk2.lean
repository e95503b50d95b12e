/-
  THE WALK of the second law.
-/
import Derived.Test.Qxb6618147aModsWalk1
namespace Go.Proofs.Qxb6618147aMods
open Go.RowKit

def zzB (n m : Nat) : Bool := decide (n + m ≤ 1048576)

theorem zz_calls (a0 : Option Addr) (n c0 : Nat) (a1 : Option Addr) (m c1 : Nat) (hn : n ≤ maxLen) (hm : m ≤ maxLen) (w : World) :
    Calls Trym.prog 16 #[.slice a0 n c0, .slice a1 m c1] w fun e w' => e = .returned (.bool (zzB n m)) ∧ w = w' := by
  unfold maxLen at hn hm
  by_cases h1 : 1048576 < n
  · have e : zzB n m = false := decide_eq_false (by omega)
    rw [e]; clear e
    go_enter Trym.func16, Trym.ntmps16
    go_wp2
    go_ret
    exact ⟨rfl, rfl⟩
  · by_cases h2 : 1048576 < m
    · have e : zzB n m = false := decide_eq_false (by omega)
      rw [e]; clear e
      go_enter Trym.func16, Trym.ntmps16
      go_wp2
      go_ret
      exact ⟨rfl, rfl⟩
    · by_cases h3 : 1048576 < n + m
      · have e : zzB n m = false := decide_eq_false (by omega)
        rw [e]; clear e
        go_enter Trym.func16, Trym.ntmps16
        go_wp2
        go_ret
        exact ⟨rfl, rfl⟩
      · have e : zzB n m = true := decide_eq_true (by omega)
        rw [e]; clear e
        go_enter Trym.func16, Trym.ntmps16
        go_wp2
        go_ret
        exact ⟨rfl, rfl⟩

/-- A text that came in: where it is not empty it lies in a row of old memory. -/
def RowIs (w : World) (a : Option Addr) (S : List Int) : Prop :=
  0 < S.length → ∃ b off, a = some ⟨b, off, none⟩ ∧ b < w.heap.size ∧ ∀ t, t < S.length → w.cell? ⟨b, off + t, none⟩ = some (.int .i32 (S[t]?.getD 0))

/-- Too long: true at once. -/
theorem walk2_long (a0 : Option Addr) (n c0 : Nat) (a1 : Option Addr) (m c1 : Nat) (hn : n ≤ maxLen) (hm : m ≤ maxLen) (h : 65536 < n ∨ 65536 < m) (w : World) :
    Calls Trym.prog 5 #[.slice a0 n c0, .slice a1 m c1] w fun e w' => e = .returned (.bool true) ∧ Below w.heap.size w w' := by
  cases hz : zzB n m with
  | false =>
    go_enter Trym.func5, Trym.ntmps5
    go_wp2_with (go_at_call 16; refine (zz_calls _ _ _ _ _ _ hn hm _).mono ?_; rintro e w' ⟨rfl, rfl⟩)
    go_ret
    exact ⟨rfl, Below.refl _ _⟩
  | true =>
    by_cases h1 : 65536 < n
    · go_enter Trym.func5, Trym.ntmps5
      go_wp2_with (go_at_call 16; refine (zz_calls _ _ _ _ _ _ hn hm _).mono ?_; rintro e w' ⟨rfl, rfl⟩)
      go_ret
      exact ⟨rfl, Below.refl _ _⟩
    · have h2 : 65536 < m := by omega
      go_enter Trym.func5, Trym.ntmps5
      go_wp2_with (go_at_call 16; refine (zz_calls _ _ _ _ _ _ hn hm _).mono ?_; rintro e w' ⟨rfl, rfl⟩)
      go_ret
      exact ⟨rfl, Below.refl _ _⟩

theorem same_flip {f : FuncId} {args : Array Value} {w : World} {v : Value} (h : Calls Trym.prog f args w fun e w' => e = .returned v ∧ w = w') : Calls Trym.prog f args w fun e w' => e = .returned v ∧ w' = w :=
  h.mono fun _ _ ⟨a, b⟩ => ⟨a, b.symm⟩

theorem drew_more {w v : World} {m : Nat} (h : v = w.drewN m) (n : Nat) : v.drewN n = w.drewN (m + n) := by rw [h, World.drewN_drewN]

theorem below_keep {B : Nat} {w w' : World} (h : Below B w w') : Hid (Below B w w') := h

set_option maxHeartbeats 3200000 in
theorem walk2_fits (a0 : Option Addr) (c0 : Nat) (a1 : Option Addr) (c1 : Nat) (S T : List Int) (hn : S.length ≤ 65536) (hm : T.length ≤ 65536) (w : World) (hS : RowIs w a0 S) (hT : RowIs w a1 T) :
    Calls Trym.prog 5 #[.slice a0 S.length c0, .slice a1 T.length c1] w fun e w' => e = .returned (.bool true) ∧ Below w.heap.size w w' := by
  obtain ⟨i0, hi, hz0, hz1, hz2⟩ := info_parts Trym.info21
  have hz : zzB S.length T.length = true := decide_eq_true (by omega)
  go_enter Trym.func5, Trym.ntmps5
  go_wp2_with (go_at_call 16; refine (zz_calls _ _ _ _ _ _ (by unfold maxLen; omega) (by unfold maxLen; omega) _).mono ?_; rintro e w' ⟨rfl, rfl⟩)
  go_loop [5] (fun i => ∃ k : Nat, k ≤ S.length ∧ i = .int .i64 k ∧ Hid (∀ t, t < k → U16.isCh (S[t]?.getD 0) = true)) (fun i => S.length - (intOf i).toNat)
  case atStart => exact ⟨0, Nat.zero_le _, rfl, fun t h => absurd h (Nat.not_lt_zero _)⟩
  case round =>
    obtain ⟨k, hk, rfl, HK⟩ := hrel
    by_cases hin : k < S.length
    · obtain ⟨b, off, rfl, hb, hc⟩ := hS (by omega)
      have ga := hc k hin
      clear hc hT
      cases hch : U16.isCh (S[k]?.getD 0) with
      | false =>
        generalize S[k]?.getD 0 = x at *
        go_wp2_with (go_at_call 11; refine (isChar_calls _ _).mono ?_; rintro e w' ⟨rfl, rfl⟩)
        go_ret
        exact ⟨rfl, Below.refl _ _⟩
      | true =>
        have HK' : Hid (∀ t, t < k + 1 → U16.isCh (S[t]?.getD 0) = true) := by
          intro t ht
          by_cases e : t = k
          · rw [e]; exact hch
          · exact HK.out t (by omega)
        clear HK
        generalize S[k]?.getD 0 = x at *
        go_wp2_with (go_at_call 11; refine (isChar_calls _ _).mono ?_; rintro e w' ⟨rfl, rfl⟩)
        go_round
        case rel => exact ⟨k + 1, by omega, by go_num, HK'⟩
        case measure => simp [intOf]; omega
    · have HS : Hid (∀ t, t < S.length → U16.isCh (S[t]?.getD 0) = true) := fun t ht => HK.out t (by omega)
      clear HK
      have HbS : Hid (∀ t, t < S.length → 0 ≤ S[t]?.getD 0 ∧ S[t]?.getD 0 ≤ 1114111) := fun t ht => have h := (U16.isCh_iff _).1 (HS.out t ht); ⟨h.1, h.2.1⟩
      go_wp2
      clear hin hk
      go_loop [6] (fun i => ∃ k : Nat, k ≤ T.length ∧ i = .int .i64 k ∧ Hid (∀ t, t < k → U16.isCh (T[t]?.getD 0) = true)) (fun i => T.length - (intOf i).toNat)
      case atStart => exact ⟨0, Nat.zero_le _, rfl, fun t h => absurd h (Nat.not_lt_zero _)⟩
      case round =>
      obtain ⟨k, hk, rfl, HK⟩ := hrel
      by_cases hin : k < T.length
      · obtain ⟨b, off, rfl, hb, hc⟩ := hT (by omega)
        have ga := hc k hin
        clear hc hS
        cases hch : U16.isCh (T[k]?.getD 0) with
        | false =>
          generalize T[k]?.getD 0 = x at *
          go_wp2_with (go_at_call 11; refine (isChar_calls _ _).mono ?_; rintro e w' ⟨rfl, rfl⟩)
          go_ret
          exact ⟨rfl, Below.refl _ _⟩
        | true =>
          have HK' : Hid (∀ t, t < k + 1 → U16.isCh (T[t]?.getD 0) = true) := by
            intro t ht
            by_cases e : t = k
            · rw [e]; exact hch
            · exact HK.out t (by omega)
          clear HK
          generalize T[k]?.getD 0 = x at *
          go_wp2_with (go_at_call 11; refine (isChar_calls _ _).mono ?_; rintro e w' ⟨rfl, rfl⟩)
          go_round
          case rel => exact ⟨k + 1, by omega, by go_num, HK'⟩
          case measure => simp [intOf]; omega
      have HT : Hid (∀ t, t < T.length → U16.isCh (T[t]?.getD 0) = true) := fun t ht => HK.out t (by omega)
      have HbT : Hid (∀ t, t < T.length → 0 ≤ T[t]?.getD 0 ∧ T[t]?.getD 0 ≤ 1114111) := fun t ht => have h := (U16.isCh_iff _).1 (HT.out t ht); ⟨h.1, h.2.1⟩
      clear HK
      go_wp2_with (at_make; refine wpList_make_own _ rfl (.const (.int .i64 0)) (.tmp 51) 31 rfl w.heap.size 21 i0 (.int .i32 0) 1 Trym.underlying31 hi hz0 hz1 _ _ _ (2 * S.length) rfl rfl (by omega) ?b2 ?b3 (Nat.le_refl _) ?_)
      case b2 => omega
      case b3 => unfold maxLen; omega
      intro wa owna growa
      clear hin hk
      go_wp2
      go_loopw [7, 8] (fun v i wr => ∃ k : Nat, k ≤ S.length ∧ i = .int .i64 k ∧ v = .slice (some ⟨w.heap.size, 0, none⟩) (U16.enc (S.take k)).length (2 * S.length) ∧
          wr.ownsRow w.heap.size 21 1 (.slice (some ⟨w.heap.size, 0, none⟩) (U16.enc (S.take k)).length (2 * S.length)) (U16.enc (S.take k)).length ((U16.enc (S.take k)).map (Value.int .i32)) ∧ Below w.heap.size w wr)
        (fun _ i _ => S.length - (intOf i).toNat)
      case atStart => exact ⟨0, Nat.zero_le _, rfl, rfl, by simpa [U16.enc] using owna, (Below.refl _ _).grown growa (Nat.le_refl _) (by intro k h; cases h)⟩
      case round =>
      obtain ⟨k, hk, rfl, rfl, hown, hbel⟩ := hrel
      by_cases hin : k < S.length
      · obtain ⟨b, off, rfl, hb, hc⟩ := hS (by omega)
        have ga := (hbel.cell (p := ⟨b, off + k, none⟩) hb).trans (hc k hin)
        have hch := HbS.out k hin
        have hle := U16.enc_take_len S k
        have HE : Hid (U16.enc (S.take (k + 1)) = U16.enc (S.take k) ++ U16.units (S[k]?.getD 0)) := U16.enc_snoc S k hin
        clear hc hT owna growa
        generalize S[k]?.getD 0 = x at *
        go_wp2_with fail
        refine (append_calls _ _ _ (U16.enc (S.take k)) _ _ _ hch.2 (by omega) rfl hown).mono ?_
        rintro e wb ⟨he, ownb, growb⟩
        rw [← HE.out] at he ownb
        subst he
        have HB : Hid (Below w.heap.size w wb) := hbel.grown growb hbel.size (by intro k h; cases h; exact Nat.le_refl _)
        clear hown hbel growb HE hle hch ga
        go_wp2
        go_roundw
        case rel => exact ⟨k + 1, by omega, by go_num, rfl, ownb, HB.out⟩
        case measure => simp [intOf]; omega
      obtain rfl : k = S.length := by omega
      simp only [List.take_length] at hown
      clear owna growa
      have hlr := (hown.lt _ rfl).2
      have hbs := hbel.size
      go_wp2_with (at_make; refine wpList_make_own _ rfl (.const (.int .i64 0)) (.tmp 67) 31 rfl w.heap.size 21 i0 (.int .i32 0) 1 Trym.underlying31 hi hz0 hz1 _ _ _ (2 * T.length) rfl rfl (by omega) ?b4 ?b5 (by omega) ?_)
      case b4 => omega
      case b5 => unfold maxLen; omega
      intro wa owna growa
      clear hin hk
      replace hlr : w.heap.size < wr.heap.size := hlr
      have hown1 := hown.kept growa (.inr (by simp [Value.ownBlock]))
      have hbel1 := hbel.grown growa hbs (by intro k h; cases h)
      clear hown hbel growa
      generalize wr.heap.size = g2 at *
      go_wp2
      go_loopw [9, 10] (fun v i wr => ∃ k : Nat, k ≤ T.length ∧ i = .int .i64 k ∧ v = .slice (some ⟨g2, 0, none⟩) (U16.enc (T.take k)).length (2 * T.length) ∧
          wr.ownsRow w.heap.size 21 1 (.slice (some ⟨g2, 0, none⟩) (U16.enc (T.take k)).length (2 * T.length)) (U16.enc (T.take k)).length ((U16.enc (T.take k)).map (Value.int .i32)) ∧
          wr.ownsRow w.heap.size 21 1 (.slice (some ⟨w.heap.size, 0, none⟩) (U16.enc S).length (2 * S.length)) (U16.enc S).length ((U16.enc S).map (Value.int .i32)) ∧ Below w.heap.size w wr)
        (fun _ i _ => T.length - (intOf i).toNat)
      case atStart => exact ⟨0, Nat.zero_le _, rfl, rfl, by simpa [U16.enc] using owna, hown1, hbel1⟩
      case round =>
      clear hown1 hbel1
      obtain ⟨k, hk, rfl, rfl, hown, hown1, hbel⟩ := hrel
      by_cases hin : k < T.length
      · obtain ⟨b, off, rfl, hb, hc⟩ := hT (by omega)
        have ga := (hbel.cell (p := ⟨b, off + k, none⟩) hb).trans (hc k hin)
        have hch := HbT.out k hin
        have hle := U16.enc_take_len T k
        have HE : Hid (U16.enc (T.take (k + 1)) = U16.enc (T.take k) ++ U16.units (T[k]?.getD 0)) := U16.enc_snoc T k hin
        clear hc hS owna
        generalize T[k]?.getD 0 = x at *
        go_wp2_with fail
        refine (append_calls _ _ _ (U16.enc (T.take k)) _ _ _ hch.2 (by omega) rfl hown).mono ?_
        rintro e wb ⟨he, ownb, growb⟩
        rw [← HE.out] at he ownb
        subst he
        have HB : Hid (Below w.heap.size w wb) := hbel.grown growb hbel.size (by intro k h; cases h; omega)
        have hown2 := hown1.kept growb (.inr (by simp [Value.ownBlock]; omega))
        clear hown hown1 hbel growb HE hle hch ga
        go_wp2
        go_roundw
        case rel => exact ⟨k + 1, by omega, by go_num, rfl, ownb, hown2, HB.out⟩
        case measure => simp [intOf]; omega
      obtain rfl : k = T.length := by omega
      obtain ⟨wo, rfl⟩ : ∃ wo, wo = wr := ⟨wr, rfl⟩
      simp only [List.take_length] at hown
      have c1 := cells_of hown1
      have c2 := cells_of hown
      have l1 := U16.enc_len S
      have l2 := U16.enc_len T
      have HB := below_keep hbel
      clear owna hown hown1 hbel
      go_wp2_with fail
      refine (compareUnits_calls _ _ _ _ _ _ (U16.enc S) (U16.enc T) _ rfl rfl (by omega) (by omega) c1 c2).mono ?_
      rintro e we ⟨rfl, n, rfl⟩
      clear c1 c2 l1 l2
      have HL : Hid (U16.cmpK S T = U16.cmpL (U16.enc S) (U16.enc T)) := U16.law2' S T HS.out HT.out
      generalize U16.cmpL (U16.enc S) (U16.enc T) = want at *
      clear HS HT
      by_cases hlt : T.length < S.length
      all_goals
        go_wp2
        go_loopw [13, 14] (fun g i wx => ∃ (k m : Nat) (q : Int), k ≤ S.length ∧ k ≤ T.length ∧ i = .int .i64 k ∧ g = .int .i64 q ∧ U16.Got S T k q ∧ Hid (wx = wo.drewN m)) (fun _ i _ => T.length - (intOf i).toNat)
        case atStart => exact ⟨0, _, 0, by omega, by omega, rfl, rfl, U16.Got.zero S T, Eq.refl _⟩
        case round =>
        obtain ⟨k, m, q, hkS, hkT, rfl, rfl, hG, HW⟩ := hrel
        have HBr : Hid (Below w.heap.size w wr) := by rw [HW.out]; exact HB.out.trans ⟨rfl, rfl, rfl, Nat.le_refl _, fun _ _ => rfl⟩
        clear HB
        by_cases hin : k < S.length ∧ k < T.length
        · obtain ⟨h1, h2⟩ := hin
          by_cases hq : q = 0
          · subst hq
            obtain ⟨b, off, rfl, hb, hc⟩ := hS (by omega)
            obtain ⟨b', off', rfl, hb', hc'⟩ := hT (by omega)
            have ga := (HBr.out.cell (p := ⟨b, off + k, none⟩) hb).trans (hc k h1)
            have gb := (HBr.out.cell (p := ⟨b', off' + k, none⟩) hb').trans (hc' k h2)
            obtain ⟨p1, p2⟩ := HbS.out k h1
            obtain ⟨q1, q2⟩ := HbT.out k h2
            have hG' := hG.step h1 h2
            clear hc hc' hG hS hT
            generalize S[k]?.getD 0 = x at *
            generalize T[k]?.getD 0 = y at *
            go_wp2_with fail
            go_quiet (first
              | (go_at_call 15; exact Calls.quiet_of_same (same_flip (key_calls _ (by assumption) (by assumption) _)))
              | (go_at_call 14; exact Calls.quiet_of_same (same_flip (compareRunes_calls _ _ _))))
            go_wp2
            go_roundw
            case rel => exact ⟨k + 1, _, _, by omega, by omega, by go_num, rfl, hG', drew_more HW.out _⟩
            case measure => simp [intOf]; omega
          · have hq' : (q == 0) = false := beq_eq_false_iff_ne.2 hq
            have hE : (q == want) = true := beq_iff_eq.2 ((hG.out hq).trans HL.out)
            clear hG HL hq
            go_wp2
            go_ret
            exact ⟨rfl, HBr.out⟩
        · by_cases hq : q = 0
          · subst hq
            have hE : (U16.cmpI S.length T.length == want) = true := beq_iff_eq.2 ((hG.last hkS hkT (by omega)).trans HL.out)
            clear hG HL
            go_wp2_with (go_at_call 17; refine (compareInts_calls _ _ _).mono ?_; rintro e w' ⟨rfl, rfl⟩)
            go_ret
            exact ⟨rfl, HBr.out⟩
          · have hq' : (q == 0) = false := beq_eq_false_iff_ne.2 hq
            have hE : (q == want) = true := beq_iff_eq.2 ((hG.out hq).trans HL.out)
            clear hG HL hq
            go_wp2
            go_ret
            exact ⟨rfl, HBr.out⟩
end Go.Proofs.Qxb6618147aMods
