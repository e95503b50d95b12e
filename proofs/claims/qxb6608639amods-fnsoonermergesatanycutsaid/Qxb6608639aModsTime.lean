/-
  CONTRACTS of package time's small functions, at times without a monotonic clock reading.
-/
import Derived.Test.Qxb6608639aModsRows
import Derived.Test.Qxb6608639aModsBits
import Derived.WalkKit
import Derived.ProofKit
import Derived.OpenShut
import Derived.WalkSpells
import Derived.Deep.QuietTactic
import Derived.BigQuiet
namespace Go.Proofs.Qxb6608639aMods
open Go.RowKit

set_option maxHeartbeats 400000 in
theorem nsec_calls (b : Nat) (n : Int) (h0 : 0 ≤ n) (h1 : n < 1000000000) (w : World) (hc : w.cell? ⟨b, 0, none⟩ = some (.int .u64 n)) :
    Calls Trym.prog 15 #[.pointer (some ⟨b, 0, none⟩)] w fun e w' => e = .returned (.int .i32 n) ∧ w = w' := by
  have hb := and_nsec n h0 h1
  go_enter Trym.func15, Trym.ntmps15
  go_wp2
  go_ret
  exact ⟨rfl, rfl⟩

set_option maxHeartbeats 400000 in
theorem sec_calls (b : Nat) (n s : Int) (h0 : 0 ≤ n) (h1 : n < 1000000000) (w : World) (hc : w.cell? ⟨b, 0, none⟩ = some (.int .u64 n)) (hs : w.cell? ⟨b, 1, none⟩ = some (.int .i64 s)) :
    Calls Trym.prog 18 #[.pointer (some ⟨b, 0, none⟩)] w fun e w' => e = .returned (.int .i64 s) ∧ w = w' := by
  have hb := and_mono n h0 h1
  go_enter Trym.func18, Trym.ntmps18
  go_wp2
  go_ret
  exact ⟨rfl, rfl⟩

set_option maxHeartbeats 400000 in
theorem addSec_calls (b : Nat) (n d : Int) (h0 : 0 ≤ n) (h1 : n < 1000000000) (hd : -10000000000 ≤ d) (hd' : d ≤ 10000000000) (w : World) (hc : w.cell? ⟨b, 0, none⟩ = some (.int .u64 n)) (hs : w.cell? ⟨b, 1, none⟩ = some (.int .i64 0)) (hf : w.frozen? ⟨b, 1, none⟩ = false) :
    Calls Trym.prog 16 #[.pointer (some ⟨b, 0, none⟩), .int .i64 d] w fun e w' => e = .returned (.tuple #[]) ∧ w.setCell ⟨b, 1, none⟩ (.int .i64 d) = w' := by
  have hb := and_mono n h0 h1
  by_cases hp : 0 < d
  · go_enter Trym.func16, Trym.ntmps16
    go_wp2
    go_end0
    exact ⟨rfl, rfl⟩
  · go_enter Trym.func16, Trym.ntmps16
    go_wp2
    go_end0
    exact ⟨rfl, rfl⟩

theorem tdm (d : Int) : ∃ q r : Int, d.tdiv 1000000000 = q ∧ d.tmod 1000000000 = r ∧ d = 1000000000 * q + r ∧ -1000000000 < r ∧ r < 1000000000 ∧ (0 ≤ d → 0 ≤ r) ∧ (d < 0 → r ≤ 0) := by
  refine ⟨_, _, rfl, rfl, (Int.mul_tdiv_add_tmod d 1000000000).symm, ?_, ?_, ?_, ?_⟩
  · rcases Int.le_total 0 d with h | h
    · have := Int.tmod_nonneg 1000000000 h; omega
    · have := Int.neg_tmod (a := -d) (b := 1000000000)
      have h2 := Int.tmod_lt_of_pos (-d) (b := 1000000000) (by decide)
      rw [Int.neg_neg] at this
      omega
  · exact Int.tmod_lt_of_pos d (by decide)
  · exact fun h => Int.tmod_nonneg 1000000000 h
  · intro h
    have := Int.neg_tmod (a := -d) (b := 1000000000)
    have h2 := Int.tmod_nonneg (a := -d) 1000000000 (by omega)
    rw [Int.neg_neg] at this
    omega
end Go.Proofs.Qxb6608639aMods
