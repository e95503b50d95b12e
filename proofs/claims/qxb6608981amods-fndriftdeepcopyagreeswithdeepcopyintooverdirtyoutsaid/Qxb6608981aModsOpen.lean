/-
  WHAT A DRIFT THAT CAME IN IS: the argument's reading, opened field by field.
-/
import Derived.Test.Qxb6608981aModsLawB
import Derived.Deep.Fields
import Derived.Deep.SlicePairs
import Derived.Deep.Strs
namespace Go.Proofs.Qxb6608981aMods
open Go.RowKit Go.Deep Go.WideShapes Go.ChangeShapes

section
variable {H : Type} {enc : TypeId × Value → H} {W : World} {base : Nat} {spare : Nat → Bool} {held : Bool}

theorem open_paths {fuel : Nat} {v : Value} {x : DataW H × List MemPlace} (h : DataW.trod enc Trym.prog W base spare held fuel 46 [v] = some x) : ∃ p, ZP W v p := by
  rcases open_strs Trym.underlying46 Trym.underlying9 (by kernel_rfl) h with ⟨hcs, _⟩ | ⟨a, len, cap, m, Sx, hcs, _, hl, hm, hmm, _, hk⟩
  · cases hcs
    exact ⟨none, rfl⟩
  · cases hcs
    have hlm : len ≤ m := by rw [hmm]; split <;> omega
    refine ⟨some (len, Sx), a, cap, rfl, by omega, fun hp => ?_⟩
    obtain ⟨b, o, spot⟩ := a
    have h0 := (hk 0 (by omega)).1
    have hspot : spot = none := by simpa [Addr.add] using World.cell?_spot h0
    subst hspot
    rw [add_plain] at h0
    refine ⟨b, o, rfl, World.block_lt_of_cell? W _ h0, fun t ht => ?_⟩
    have := hk t (by omega)
    rw [add_plain] at this
    exact this

theorem open_target {fuel : Nat} {v : Value} {x : DataW H × List MemPlace} (h : DataW.trod enc Trym.prog W base spare held fuel 47 [v] = some x) : ∃ T, ZT W v T := by
  rcases open_ptr_fields Trym.underlying47 Trym.underlying51 (hone_of (by kernel_rfl)) (by kernel_rfl) (by decide) h with ⟨hcs, _⟩ | ⟨b, o, n, V, Y, hcs, _, _, hf⟩
  · cases hcs
    exact ⟨none, rfl⟩
  · cases hcs
    have each : ∀ i, i < 7 → ∃ s : ByteArray, W.cell? ⟨b, o + i, none⟩ = some (.string s) ∧ s.size ≤ maxLen := by
      have one : ∀ i f, i < 7 → (∃ n, W.cell? ⟨b, o + i, none⟩ = some (V i) ∧ f = 9 ∧ DataW.trod enc Trym.prog W base spare held n f [V i] = some (Y i)) → ∃ s : ByteArray, W.cell? ⟨b, o + i, none⟩ = some (.string s) ∧ s.size ≤ maxLen := by
        rintro i f _ ⟨n, hc, rfl, ht⟩
        obtain ⟨s, hs, _, hl⟩ := DataW.trod_string Trym.underlying9 ht
        cases hs' : V i
        all_goals rw [hs'] at hs hc
        all_goals first | (cases hs; exact ⟨_, hc, hl⟩) | (cases hs)
      refine seven ?_ ?_ ?_ ?_ ?_ ?_ ?_
      · exact one 0 _ (by omega) ⟨n, (hf 0 _ rfl).1, rfl, (hf 0 _ rfl).2⟩
      · exact one 1 _ (by omega) ⟨n, (hf 1 _ rfl).1, rfl, (hf 1 _ rfl).2⟩
      · exact one 2 _ (by omega) ⟨n, (hf 2 _ rfl).1, rfl, (hf 2 _ rfl).2⟩
      · exact one 3 _ (by omega) ⟨n, (hf 3 _ rfl).1, rfl, (hf 3 _ rfl).2⟩
      · exact one 4 _ (by omega) ⟨n, (hf 4 _ rfl).1, rfl, (hf 4 _ rfl).2⟩
      · exact one 5 _ (by omega) ⟨n, (hf 5 _ rfl).1, rfl, (hf 5 _ rfl).2⟩
      · exact one 6 _ (by omega) ⟨n, (hf 6 _ rfl).1, rfl, (hf 6 _ rfl).2⟩
    obtain ⟨f, hk⟩ := choose_lt each
    exact ⟨some f, b, o, rfl, World.block_lt_of_cell? W _ (hk 0 (by omega)).1, hk⟩

theorem open_rules {fuel : Nat} {v : Value} {x : DataW H × List MemPlace} (h : DataW.trod enc Trym.prog W base spare held fuel 43 [v] = some x) : ∃ ig, ZI W v ig := by
  rcases open_slice_pairs Trym.underlying43 Trym.underlying49 (by kernel_rfl) rfl rfl (by kernel_rfl) (by kernel_rfl) h with ⟨hcs, _⟩ | ⟨a, len, cap, m, n, V0, V1, D0, D1, P0, P1, hcs, _, hl, hm, hmm, _, hk⟩
  · cases hcs
    exact ⟨none, rfl⟩
  · cases hcs
    have hlm : len ≤ m := by rw [hmm]; split <;> omega
    obtain ⟨P, hP⟩ := choose_lt (fun i hi => open_paths (hk i (Nat.lt_of_lt_of_le hi hlm)).2.2.1)
    obtain ⟨T, hT⟩ := choose_lt (fun i hi => open_target (hk i (Nat.lt_of_lt_of_le hi hlm)).2.2.2)
    refine ⟨some (len, P, T), a, cap, rfl, by omega, fun hp => ?_⟩
    obtain ⟨b, o, spot⟩ := a
    have h0 := (hk 0 (by omega)).1
    have hspot : spot = none := by simpa [Addr.add] using World.cell?_spot h0
    subst hspot
    rw [add_plain] at h0
    refine ⟨b, o, V0, V1, rfl, World.block_lt_of_cell? W _ h0, fun t ht => ?_⟩
    obtain ⟨k0, k1, _, _⟩ := hk t (by omega)
    rw [add_plain] at k0 k1
    exact ⟨k0, k1, hP t ht, hT t ht⟩

theorem open_drift {fuel : Nat} {v : Value} {x : DataW H × List MemPlace} (h : DataW.trod enc Trym.prog W base spare held fuel 30 [v] = some x) : ZO W v := by
  rcases open_ptr_fields Trym.underlying30 Trym.underlying45 (hone_of (by kernel_rfl)) (by kernel_rfl) (by decide) h with ⟨hcs, _⟩ | ⟨b, o, n, V, Y, hcs, _, _, hf⟩
  · cases hcs
    exact .inl rfl
  · cases hcs
    obtain ⟨c0, t0⟩ := hf 0 _ rfl
    obtain ⟨c1, t1⟩ := hf 1 _ rfl
    obtain ⟨s, hs, _, hl⟩ := DataW.trod_string Trym.underlying9 t0
    obtain ⟨ig, hz⟩ := open_rules t1
    simp only [List.cons.injEq, and_true] at hs
    rw [hs] at c0
    exact .inr ⟨b, o, s, ig, rfl, World.block_lt_of_cell? W _ c0, hl, c0, _, c1, hz⟩
end
end Go.Proofs.Qxb6608981aMods
