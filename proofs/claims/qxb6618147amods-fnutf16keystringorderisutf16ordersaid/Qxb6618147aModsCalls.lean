/-
  CONTRACTS of the small functions on the two laws' roads.
-/
import Derived.Test.Qxb6618147aModsRows
import Derived.Test.Qxb6618147aModsPlain
import Derived.WalkKit
import Derived.ProofKit
import Derived.OpenShut
import Derived.WalkSpells
import Derived.Deep.QuietTactic
import Derived.BigQuiet
namespace Go.Proofs.Qxb6618147aMods
open Go.RowKit

theorem Trym.info21 : (Trym.prog.info? 21).map (fun i => (i.zero, i.size, i.bytes)) = some (some (.int .i32 0), 1, 4) := by kernel_rfl

theorem isChar_calls (r : Int) (w : World) : Calls Trym.prog 11 #[.int .i32 r] w fun e w' => e = .returned (.bool (U16.isCh r)) ∧ w = w' := by
  have key : ∀ b, U16.isCh r = b → Calls Trym.prog 11 #[.int .i32 r] w fun e w' => e = .returned (.bool b) ∧ w = w' := by
    intro b hb
    by_cases h1 : r < 0
    · have : U16.isCh r = false := decide_eq_false (by omega)
      rw [this] at hb; subst hb
      clear this
      go_enter Trym.func11, Trym.ntmps11
      go_wp2
      go_ret
      exact ⟨rfl, rfl⟩
    · by_cases h2 : 1114111 < r
      · have : U16.isCh r = false := decide_eq_false (by omega)
        rw [this] at hb; subst hb
        clear this
        go_enter Trym.func11, Trym.ntmps11
        go_wp2
        go_ret
        exact ⟨rfl, rfl⟩
      · by_cases h3 : 55296 ≤ r
        · by_cases h4 : r ≤ 57343
          · have : U16.isCh r = false := decide_eq_false (by omega)
            rw [this] at hb; subst hb
            clear this
            go_enter Trym.func11, Trym.ntmps11
            go_wp2
            go_ret
            exact ⟨rfl, rfl⟩
          · have : U16.isCh r = true := decide_eq_true (by omega)
            rw [this] at hb; subst hb
            clear this
            go_enter Trym.func11, Trym.ntmps11
            go_wp2
            go_ret
            exact ⟨rfl, rfl⟩
        · have : U16.isCh r = true := decide_eq_true (by omega)
          rw [this] at hb; subst hb
          clear this
          go_enter Trym.func11, Trym.ntmps11
          go_wp2
          go_ret
          exact ⟨rfl, rfl⟩
  exact key _ rfl

theorem ret_int {k : IntKind} {a b : Int} (h : a = b) : Ending.returned (.int k a) = .returned (.int k b) := by rw [h]

theorem compareRunes_calls (a b : Int) (w : World) : Calls Trym.prog 14 #[.int .i32 a, .int .i32 b] w fun e w' => e = .returned (.int .i64 (U16.cmpI a b)) ∧ w = w' := by
  by_cases h1 : a < b
  · have e : U16.cmpI a b = -1 := by simp [U16.cmpI, h1]
    rw [e]; clear e
    go_enter Trym.func14, Trym.ntmps14
    go_wp2
    go_ret
    exact ⟨rfl, rfl⟩
  · by_cases h2 : b < a
    · have e : U16.cmpI a b = 1 := by simp [U16.cmpI, h1, h2]
      rw [e]; clear e
      go_enter Trym.func14, Trym.ntmps14
      go_wp2
      go_ret
      exact ⟨rfl, rfl⟩
    · have e : U16.cmpI a b = 0 := by simp [U16.cmpI, h1, h2]
      rw [e]; clear e
      go_enter Trym.func14, Trym.ntmps14
      go_wp2
      go_ret
      exact ⟨rfl, rfl⟩

theorem compareInts_calls (a b : Int) (w : World) : Calls Trym.prog 17 #[.int .i64 a, .int .i64 b] w fun e w' => e = .returned (.int .i64 (U16.cmpI a b)) ∧ w = w' := by
  by_cases h1 : a < b
  · have e : U16.cmpI a b = -1 := by simp [U16.cmpI, h1]
    rw [e]; clear e
    go_enter Trym.func17, Trym.ntmps17
    go_wp2
    go_ret
    exact ⟨rfl, rfl⟩
  · by_cases h2 : b < a
    · have e : U16.cmpI a b = 1 := by simp [U16.cmpI, h1, h2]
      rw [e]; clear e
      go_enter Trym.func17, Trym.ntmps17
      go_wp2
      go_ret
      exact ⟨rfl, rfl⟩
    · have e : U16.cmpI a b = 0 := by simp [U16.cmpI, h1, h2]
      rw [e]; clear e
      go_enter Trym.func17, Trym.ntmps17
      go_wp2
      go_ret
      exact ⟨rfl, rfl⟩

theorem key_calls (r : Int) (h0 : 0 ≤ r) (hm : r ≤ 1114111) (w : World) : Calls Trym.prog 15 #[.int .i32 r] w fun e w' => e = .returned (.int .i32 (U16.key r)) ∧ w = w' := by
  by_cases h1 : 65536 ≤ r
  · have e : U16.key r = r - 65536 + 55296 := by simp [U16.key, h1]
    rw [e]; clear e
    go_enter Trym.func15, Trym.ntmps15
    go_wp2
    go_ret
    exact ⟨by go_num, rfl⟩
  · by_cases h2 : 57344 ≤ r
    · have e : U16.key r = r + 1048576 := by simp [U16.key, h1, h2]
      rw [e]; clear e
      go_enter Trym.func15, Trym.ntmps15
      go_wp2
      go_ret
      exact ⟨by go_num, rfl⟩
    · have e : U16.key r = r := by simp [U16.key, h1, h2]
      rw [e]; clear e
      go_enter Trym.func15, Trym.ntmps15
      go_wp2
      go_ret
      exact ⟨rfl, rfl⟩
end Go.Proofs.Qxb6618147aMods
