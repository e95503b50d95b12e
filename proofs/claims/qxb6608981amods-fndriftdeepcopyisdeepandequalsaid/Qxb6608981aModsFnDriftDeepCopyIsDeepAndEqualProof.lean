/-
  PROOF OF 'Rows.FnDriftDeepCopyIsDeepAndEqualSaid' (the frame after the shells given for the other seats' rows of this kind).
-/
import Derived.Test.Qxb6608981aModsRows
import Derived.WalkKit
import Derived.ProofKit
import Derived.OpenShut
import Derived.ShutString
import Derived.ChangeOld
import Derived.Below
import Derived.Test.Qxb6608981aModsOpen
import Derived.Test.Qxb6608981aModsMut
import Derived.Test.Qxb6608981aModsBytes5
namespace Go.Proofs.Qxb6608981aMods.fnDriftDeepCopyIsDeepAndEqual
open Go.ChangeShapes Go.WideShapes Go.ChangeAt Go.RowKit
set_option linter.unusedVariables false

theorem own : ownKnob Trym.prog.godebug = none := by kernel_rfl
theorem laidOut : laidOutB Trym.prog = true := by kernel_rfl

theorem mutSays : MutSays := fun gx a b md ig w hB hm hx hb => (mutate_calls gx a b md ig w hB hm hx hb).mono fun _ _ ⟨he, h⟩ => ⟨he, h.bel, h.ag⟩

/-- The walk: whatever drift comes in, nil or not: true; and nothing that was there is written. -/
theorem walk (y0 : Option Addr) (w : World) (z0 : ZO w (.pointer y0)) : Calls Trym.prog 5 #[.pointer y0] w fun e w' => e = .returned (.bool true) ∧ Below w.heap.size w w' := by
  rcases z0 with h | ⟨b, o, md, ig, h, z⟩
  · cases h
    exact lawA_nil (hide Abs5.bytes5_nil) w
  · cases h
    exact lawA_some (hide Abs5.bytes5_calls) (hide mutSays) b o md ig w z

/-! ### The row's step -/
set_option maxRecDepth 100000 in
theorem lifted (os : Os) (started : os.Started) (H : Type) (enc : TypeId × Value → H) :
    ReturnsInHanded {} Trym.checked os 5 .any (Rows.fnDriftDeepCopyIsDeepAndEqualSpec.pre6 enc Trym.prog Trym.f5 Rows.fnDriftDeepCopyIsDeepAndEqualRow.domain false) (Rows.fnDriftDeepCopyIsDeepAndEqualSpec.post enc Trym.prog Trym.f5 false true false false) := by
  refine returnsInHanded_of_change (C := Trym.checked) own started (by kernel_rfl) Trym.func5
    (ChangeSpec.witness6 (enc := enc) (C := Trym.checked) false ⟨#[], #[.pointer none], []⟩ 8 (by kernel_rfl) (by kernel_rfl) (by kernel_rfl) (by kernel_rfl)) ?_
  intro W base args ds gs before hval0 hW hcnd _
  have hval : ∀ (j : Nat) t v, Trym.f5.params[j]? = some t → args[j]? = some v → Value.okWide Trym.prog W .any base t v := hval0
  have hW' := hW
  obtain ⟨p, q, hA0, hV, rfl, hfz, hnd⟩ := hW
  have hA : DataW.TrodAll enc Trym.prog W 0 (fun _ => true) true Trym.f5.params.toList args.toList ds p := hA0
  rw [Trym.params5] at hA hval
  obtain ⟨v0, vs0, d0, ds0, p0, q0, hargs, rfl, rfl, h0, r0⟩ := trodAll_cons hA
  obtain ⟨rfl, rfl, rfl⟩ := trodAll_nil r0
  obtain rfl : args = #[v0] := by cases args; simp_all
  obtain ⟨rfl, rfl⟩ := trodVars_none hV
  obtain ⟨y0, rfl⟩ := okWide_pointer Trym.underlying30 (hval 0 30 v0 rfl rfl)
  have k0 := h0
  have lt0 : ∀ x ∈ p0, x.block < W.heap.size := by obtain ⟨m, hm⟩ := k0; exact DataW.trod_lt m _ _ _ hm
  have z0 : ZO W (.pointer y0) := by
    obtain ⟨fuel, hf⟩ := h0
    exact open_drift hf
  clear hA0 hval0
  refine (walk y0 W z0).mono fun e W' ⟨he, bel⟩ => ?_
  subst he
  exact ⟨_, rfl, _, _, _, [], _, [], hW', trodAll_mk1 (shut_bool Trym.underlying4 _), (trodAll_cons_mk (Below.trod laidOut (by kernel_rfl) (of_decide_eq_true (by kernel_rfl)) k0 bel lt0) trodAll_mk0), rfl, bel.frame _, fun h => by cases h⟩

theorem over : Rows.fnDriftDeepCopyIsDeepAndEqualRow.holds Trym.pinned (OpenSpec.ofChange Rows.fnDriftDeepCopyIsDeepAndEqualSpec) :=
  OpenClaim.holds_of_wide 5 Trym.f5 rfl rfl rfl rfl rfl rfl rfl ⟨rfl, rfl, rfl, rfl, rfl⟩ rfl rfl rfl rfl rfl (by kernel_rfl) Trym.func5 (by kernel_rfl)
    (of_decide_eq_true (by kernel_rfl)) (by unfold Func.isWrapper; first | (rw [if_pos (by decide +kernel)]; kernel_rfl) | (rw [if_neg (by decide +kernel)]; exact ⟨rfl, rfl⟩))
    (fun os started H enc _ => lifted os started H enc)

/-- ████ THE STATEMENT ████ -/
theorem proved : Rows.FnDriftDeepCopyIsDeepAndEqualSaid := over
end Go.Proofs.Qxb6608981aMods.fnDriftDeepCopyIsDeepAndEqual
