/-
  CONTRACTS of appendUTF16 and compareUnits.
-/
import Derived.Test.Qxb6618147aModsCalls
namespace Go.Proofs.Qxb6618147aMods
open Go.RowKit

theorem grownBy_trans {a b c : World} {row : Option Nat} (h : a.grownBy b row) (k : b.grownBy c row) : a.grownBy c row :=
  ⟨k.os.trans h.os, k.tape.trans h.tape, k.output.trans h.output, Nat.le_trans h.size k.size, fun i hi hr => (k.block i (Nat.lt_of_lt_of_le hi h.size) hr).trans (h.block i hi hr)⟩

theorem dn2 (w : World) (a b : Nat) : ∃ n, (w.drewN a).drewN b = w.drewN n := ⟨a + b, by simp only [World.drewN_drewN]⟩
theorem dn3 (w : World) (a b c : Nat) : ∃ n, ((w.drewN a).drewN b).drewN c = w.drewN n := ⟨a + b + c, by simp only [World.drewN_drewN]⟩

set_option maxHeartbeats 800000 in
/-- A character of one unit. -/
theorem append_one (g k cap : Nat) (xs : List Value) (r : Int) (base : Nat) (w : World) (hr : r < 65536) (hk : k + 1 ≤ cap)
    (hown : w.ownsRow base 21 1 (.slice (some ⟨g, 0, none⟩) k cap) k xs) :
    Calls Trym.prog 12 #[.slice (some ⟨g, 0, none⟩) k cap, .int .i32 r] w fun e w' =>
      e = .returned (.slice (some ⟨g, 0, none⟩) (k + 1) cap) ∧ w'.ownsRow base 21 1 (.slice (some ⟨g, 0, none⟩) (k + 1) cap) (k + 1) (xs ++ [.int .i32 r]) ∧ w.grownBy w' (some g) := by
  obtain ⟨i0, hi, hz0, hz1, hz2⟩ := info_parts Trym.info21
  go_enter Trym.func12, Trym.ntmps12
  go_wp2_with (at_builtin; refine wpList_append_fits _ rfl (.tmp 8) (.tmp 10) 31 rfl base 21 i0 1 Trym.underlying31 hi hz1 g k cap _ rfl (hown.alloc _) ⟨w.heap.size, 0, none⟩ 1 1 [.int .i32 r] rfl rfl (by intro t u ht; match t, ht with | 0, ht => simp at ht; subst ht; simp [Addr.add]) (by intro u hu; simp at hu; subst hu; rfl) hk ?_; intro w1 hown1 hgrow1)
  go_ret
  exact ⟨rfl, hown1, grownBy_trans (World.grownBy_alloc _ _ _) hgrow1⟩

set_option maxHeartbeats 800000 in
/-- A character of two units. -/
theorem append_two (g k cap : Nat) (xs : List Value) (r : Int) (base : Nat) (w : World) (hr : 65536 ≤ r) (hm : r ≤ 1114111) (hk : k + 2 ≤ cap)
    (hown : w.ownsRow base 21 1 (.slice (some ⟨g, 0, none⟩) k cap) k xs) :
    Calls Trym.prog 12 #[.slice (some ⟨g, 0, none⟩) k cap, .int .i32 r] w fun e w' =>
      e = .returned (.slice (some ⟨g, 0, none⟩) (k + 2) cap) ∧ w'.ownsRow base 21 1 (.slice (some ⟨g, 0, none⟩) (k + 2) cap) (k + 2) (xs ++ [.int .i32 (55296 + (r - 65536) / 1024), .int .i32 (56320 + (r - 65536) % 1024)]) ∧ w.grownBy w' (some g) := by
  have hb : bits .and .i32 (r - 65536) 1023 = (r - 65536) % 1024 := bits_mask .i32 31 (by decide) wraps_i32 10 (by decide) _ (by omega) (by omega)
  obtain ⟨i0, hi, hz0, hz1, hz2⟩ := info_parts Trym.info21
  go_enter Trym.func12, Trym.ntmps12
  go_wp2_with (first
    | (at_builtin; refine wpList_append_fits _ rfl (.tmp 14) (.tmp 18) 31 rfl base 21 i0 1 Trym.underlying31 hi hz1 g k cap _ rfl (hown.alloc _) ⟨w.heap.size, 0, none⟩ 1 1 [.int .i32 (55296 + (r - 65536) / 1024)] rfl rfl (by intro t u ht; match t, ht with | 0, ht => simp at ht; subst ht; simp [Addr.add]) (by intro u hu; simp at hu; subst hu; rfl) (by omega) ?_; intro w1 hown1 hgrow1)
    | (at_builtin; refine wpList_append_fits _ rfl (.tmp 20) (.tmp 24) 31 rfl base 21 i0 1 Trym.underlying31 hi hz1 g (k + 1) cap _ rfl (hown1.alloc _) ⟨w1.heap.size, 0, none⟩ 1 1 [.int .i32 (56320 + (r - 65536) % 1024)] rfl rfl (by intro t u ht; match t, ht with | 0, ht => simp at ht; subst ht; simp [Addr.add]) (by intro u hu; simp at hu; subst hu; rfl) (by omega) ?_; intro w2 hown2 hgrow2))
  go_ret
  refine ⟨rfl, ?_, grownBy_trans (grownBy_trans (World.grownBy_alloc _ _ _) hgrow1) (grownBy_trans (World.grownBy_alloc _ _ _) hgrow2)⟩
  simpa using hown2

/-- EVERY CHARACTER. -/
theorem append_calls (g k cap : Nat) (zs : List Int) (r : Int) (base : Nat) (w : World) (hr : r ≤ 1114111) (hk : k + 2 ≤ cap) (hz : zs.length = k)
    (hown : w.ownsRow base 21 1 (.slice (some ⟨g, 0, none⟩) k cap) k (zs.map (Value.int .i32))) :
    Calls Trym.prog 12 #[.slice (some ⟨g, 0, none⟩) k cap, .int .i32 r] w fun e w' =>
      e = .returned (.slice (some ⟨g, 0, none⟩) (zs ++ U16.units r).length cap) ∧ w'.ownsRow base 21 1 (.slice (some ⟨g, 0, none⟩) (zs ++ U16.units r).length cap) (zs ++ U16.units r).length ((zs ++ U16.units r).map (Value.int .i32)) ∧ w.grownBy w' (some g) := by
  by_cases h : r < 65536
  · have e : U16.units r = [r] := by simp [U16.units, h]
    have el : (zs ++ U16.units r).length = k + 1 := by rw [e]; simp [hz]
    have em : (zs ++ U16.units r).map (Value.int .i32) = zs.map (Value.int .i32) ++ [.int .i32 r] := by rw [e]; simp
    rw [el, em]
    exact append_one g k cap _ r base w h (by omega) hown
  · have e : U16.units r = [55296 + (r - 65536) / 1024, 56320 + (r - 65536) % 1024] := by simp [U16.units, h]
    have el : (zs ++ U16.units r).length = k + 2 := by rw [e]; simp [hz]
    have em : (zs ++ U16.units r).map (Value.int .i32) = zs.map (Value.int .i32) ++ [.int .i32 (55296 + (r - 65536) / 1024), .int .i32 (56320 + (r - 65536) % 1024)] := by rw [e]; simp
    rw [el, em]
    exact append_two g k cap _ r base w (by omega) hr hk hown

set_option maxHeartbeats 1600000 in
/-- compareUnits: two rows of numbers, compared. -/
theorem compareUnits_calls (g1 n1 c1 g2 n2 c2 : Nat) (A B : List Int) (w : World) (hA : A.length = n1) (hB : B.length = n2) (hn1 : n1 ≤ 1000000) (hn2 : n2 ≤ 1000000)
    (hca : ∀ t, t < n1 → w.cell? ⟨g1, t, none⟩ = some (.int .i32 (A[t]?.getD 0))) (hcb : ∀ t, t < n2 → w.cell? ⟨g2, t, none⟩ = some (.int .i32 (B[t]?.getD 0))) :
    Calls Trym.prog 13 #[.slice (some ⟨g1, 0, none⟩) n1 c1, .slice (some ⟨g2, 0, none⟩) n2 c2] w fun e w' => e = .returned (.int .i64 (U16.cmpL A B)) ∧ ∃ n, w' = w.drewN n := by
  by_cases hlt : n2 < n1
  all_goals
    go_enter Trym.func13, Trym.ntmps13
    go_wp2
    go_loopw [6] (fun i wr => ∃ k n : Nat, k ≤ n1 ∧ k ≤ n2 ∧ i = .int .i64 k ∧ Hid (U16.cmpL (A.drop k) (B.drop k) = U16.cmpL A B) ∧ Hid (wr = w.drewN n)) (fun i _ => n2 - (intOf i).toNat)
    case atStart => exact ⟨0, 0, by omega, by omega, rfl, rfl, rfl⟩
    case round =>
      obtain ⟨k, n, hk1, hk2, rfl, HC, HW⟩ := hrel
      have hw := HW.out
      subst hw
      clear HW
      by_cases hin : k < n1 ∧ k < n2
      · obtain ⟨hkA, hkB⟩ := hin
        have ga := hca k hkA
        have gb := hcb k hkB
        have hA' : k < A.length := by omega
        have hB' : k < B.length := by omega
        have e1 := HC.out
        by_cases l1 : A[k]?.getD 0 < B[k]?.getD 0
        · have HE : Hid (U16.cmpL A B = -1) := by rw [← e1]; exact U16.cmpL_lt A B k hA' hB' l1
          clear hca hcb e1 HC hA' hB' hA hB
          generalize A[k]?.getD 0 = x at *
          generalize B[k]?.getD 0 = y at *
          go_wp2
          go_quiet (fail)
          go_wp2
          go_ret
          exact ⟨ret_int HE.out.symm, dn2 _ _ _⟩
        · by_cases l2 : B[k]?.getD 0 < A[k]?.getD 0
          · have HE : Hid (U16.cmpL A B = 1) := by rw [← e1]; exact U16.cmpL_gt A B k hA' hB' l2
            clear hca hcb e1 HC hA' hB' hA hB
            generalize A[k]?.getD 0 = x at *
            generalize B[k]?.getD 0 = y at *
            go_wp2
            go_quiet (fail)
            go_wp2
            go_quiet (fail)
            go_wp2
            go_ret
            exact ⟨ret_int HE.out.symm, dn3 _ _ _ _⟩
          · have HE : Hid (U16.cmpL (A.drop (k + 1)) (B.drop (k + 1)) = U16.cmpL A B) := by rw [← e1]; exact U16.cmpL_eq A B k hA' hB' l1 l2
            clear hca hcb e1 HC hA' hB' hA hB
            generalize A[k]?.getD 0 = x at *
            generalize B[k]?.getD 0 = y at *
            go_wp2
            go_quiet (fail)
            go_wp2
            go_quiet (fail)
            go_wp2
            go_roundw
            case rel => exact ⟨k + 1, _, by omega, by omega, by go_num, HE, Eq.refl _⟩
            case measure => simp [intOf]; omega
      · have HE : Hid (U16.cmpL A B = U16.cmpI n1 n2) := by rw [← HC.out, ← hA, ← hB]; exact U16.cmpL_stop A B k (by omega) (by omega) (by omega)
        clear hca hcb HC hA hB
        go_wp2_with (go_at_call 17; refine (compareInts_calls _ _ _).mono ?_; rintro e w' ⟨rfl, rfl⟩)
        go_ret
        exact ⟨ret_int HE.out.symm, ⟨_, rfl⟩⟩
end Go.Proofs.Qxb6618147aMods
