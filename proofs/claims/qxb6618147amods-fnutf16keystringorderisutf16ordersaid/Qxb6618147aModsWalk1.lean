/-
  THE WALK of the first law.
-/
import Derived.Test.Qxb6618147aModsUnits
namespace Go.Proofs.Qxb6618147aMods
open Go.RowKit

theorem cells_of {w : World} {base g n cap : Nat} {A : List Int} (h : w.ownsRow base 21 1 (.slice (some ⟨g, 0, none⟩) n cap) n (A.map (Value.int .i32))) :
    ∀ t, t < A.length → w.cell? ⟨g, t, none⟩ = some (.int .i32 (A[t]?.getD 0)) := by
  intro t ht
  have := h.cells (g := g) rfl t (.int .i32 (A[t]?.getD 0)) (by simp [ht])
  simpa [Addr.add_lit] using this

/-! ### THE WALK: the Go text returns true, and writes nothing that was there. -/
theorem walk_no (a0 a1 : Int) (h : U16.isCh a0 = false ∨ (U16.isCh a0 = true ∧ U16.isCh a1 = false)) (w : World) :
    Calls Trym.prog 4 #[.int .i32 a0, .int .i32 a1] w fun e w' => e = .returned (.bool true) ∧ Below w.heap.size w w' := by
  rcases h with h | ⟨h, h'⟩
  all_goals
    go_enter Trym.func4, Trym.ntmps4
    go_wp2_with (go_at_call 11; refine (isChar_calls _ _).mono ?_; rintro e w' ⟨rfl, rfl⟩)
    go_ret
    exact ⟨rfl, Below.refl _ _⟩

set_option maxHeartbeats 1600000 in
theorem walk_yes (a0 a1 : Int) (h0 : U16.isCh a0 = true) (h1 : U16.isCh a1 = true) (w : World) :
    Calls Trym.prog 4 #[.int .i32 a0, .int .i32 a1] w fun e w' => e = .returned (.bool true) ∧ Below w.heap.size w w' := by
  obtain ⟨i0, hi, hz0, hz1, hz2⟩ := info_parts Trym.info21
  have b0 := (U16.isCh_iff a0).1 h0
  have b1 := (U16.isCh_iff a1).1 h1
  have HL : Hid (U16.cmpI (U16.key a0) (U16.key a1) = U16.cmpL (U16.units a0) (U16.units a1)) := U16.law1 a0 a1 h0 h1
  obtain ⟨b00, b01, -⟩ := b0
  obtain ⟨b10, b11, -⟩ := b1
  go_enter Trym.func4, Trym.ntmps4
  go_wp2_with (first
    | (go_at_call 11; refine (isChar_calls _ _).mono ?_; rintro e w' ⟨rfl, rfl⟩)
    | (at_make; refine wpList_make_own _ rfl (.const (.int .i64 0)) (.const (.int .i64 2)) 31 rfl w.heap.size 21 i0 (.int .i32 0) 1 Trym.underlying31 hi hz0 hz1 _ _ _ 2 rfl rfl (by omega) ?b2 ?b3 (Nat.le_refl _) ?_))
  case b2 => rw [hz2]; omega
  case b3 => decide
  intro wa owna growa
  go_wp2_with fail
  refine (append_calls _ 0 _ [] _ _ _ b01 (by omega) rfl (by simpa using owna)).mono ?_
  rintro e wb ⟨rfl, ownb, growb⟩
  have hsa := growa.size
  have hsb := growb.size
  go_wp2_with (at_make; refine wpList_make_own _ rfl (.const (.int .i64 0)) (.const (.int .i64 2)) 31 rfl w.heap.size 21 i0 (.int .i32 0) 1 Trym.underlying31 hi hz0 hz1 _ _ _ 2 rfl rfl (by omega) ?b4 ?b5 (by omega) ?_)
  case b4 => rw [hz2]; omega
  case b5 => decide
  intro wc ownc growc
  go_wp2_with fail
  refine (append_calls _ 0 _ [] _ _ _ b11 (by omega) rfl (by simpa using ownc)).mono ?_
  rintro e wd ⟨rfl, ownd, growd⟩
  simp only [List.nil_append] at ownb ownd
  have hlb : w.heap.size < wb.heap.size := (ownb.lt _ rfl).2
  have own1 := (ownb.kept growc (.inr (by simp [Value.ownBlock]))).kept growd (.inr (by simp [Value.ownBlock]; omega))
  have c1 := cells_of own1
  have c2 := cells_of ownd
  have l1 := U16.units_le a0
  have l2 := U16.units_le a1
  have HB : Hid (Below w.heap.size w wd) :=
    ((((Below.refl _ _).grown growa (Nat.le_refl _) (by intro k h; cases h)).grown growb (by omega) (by intro k h; cases h; exact Nat.le_refl _)).grown growc (by omega) (by intro k h; cases h)).grown growd (by have := growc.size; omega) (by intro k h; cases h; omega)
  have hE : (U16.cmpI (U16.key a0) (U16.key a1) == U16.cmpL (U16.units a0) (U16.units a1)) = true := beq_iff_eq.2 HL.out
  clear owna ownb ownc ownd growa growb growc growd own1 hlb HL
  go_wp2_with fail
  refine (compareUnits_calls _ _ _ _ _ _ (U16.units a0) (U16.units a1) _ rfl rfl (by omega) (by omega) c1 c2).mono ?_
  rintro e we ⟨rfl, n, rfl⟩
  clear c1 c2
  go_wp2_with (first
    | (go_at_call 15; refine (key_calls _ (by assumption) (by assumption) _).mono ?_; rintro e w' ⟨rfl, rfl⟩)
    | (go_at_call 14; refine (compareRunes_calls _ _ _).mono ?_; rintro e w' ⟨rfl, rfl⟩))
  go_ret
  exact ⟨rfl, HB.out.trans ⟨rfl, rfl, rfl, Nat.le_refl _, fun _ _ => rfl⟩⟩

theorem walk1 (a0 : Int) (a1 : Int) (w : World) :
    Calls Trym.prog 4 #[.int .i32 a0, .int .i32 a1] w fun e w' => e = .returned (.bool true) ∧ Below w.heap.size w w' := by
  cases h0 : U16.isCh a0 with
  | false => exact walk_no a0 a1 (.inl h0) w
  | true =>
    cases h1 : U16.isCh a1 with
    | false => exact walk_no a0 a1 (.inr ⟨h0, h1⟩) w
    | true => exact walk_yes a0 a1 h0 h1 w

end Go.Proofs.Qxb6618147aMods
