/-
  zzBytes OF THE LAW OF DEEPCOPY: whole.
-/
import Derived.Test.Qxb6608981aModsBody5
namespace Go.Proofs.Qxb6608981aMods.Abs5
open Go.RowKit Go.Proofs.Qxb6608981aMods.Abs

/-- The function's own end. -/
theorem ret12 (w : World) (T : Array Value) (x : Bool) (h : T.getD 2 undef = .bool x) : bodyPost Trym.prog Trym.f12 (Ans w) .ret ⟨T, []⟩ w := by
  refine bodyPost_ret (results_tmp rfl _ _ _) rfl ?_
  show Ans w (.returned (T.getD 2 undef)) w
  rw [h]
  exact ans _ _
set_option maxHeartbeats 4000000 in
set_option maxRecDepth 4000 in
theorem last12 (w : World) (T : Array Value) (hs : T.size = 324) (cd : Code) (hcd : sub [1, 1, 1] Trym.f12.body = some cd) : cd.wp Trym.prog (bodyPost Trym.prog Trym.f12 (Ans w)) ⟨T, []⟩ w := by
  have x2 := get_same
  refine wp_of_some hcd rfl ?_
  refine Abs.step (fun T' => T'.getD 2 undef = .bool true) ?_ ?_
  · intro K Q' HK
    go_wp2_with fail
    exact HK.out _ (get_same _ _ _ (by simp [hs]))
  · exact fun T' h => wp_ret (ret12 w T' true h)

set_option maxHeartbeats 4000000 in
set_option maxRecDepth 4000 in
theorem bytes12_none (w : World) (T : Array Value) (z : Int) (i j : Value) (hN : Nm (.pointer none) z i j T) (cd : Code) (hcd : sub [1, 1] Trym.f12.body = some cd) : cd.wp Trym.prog (bodyPost Trym.prog Trym.f12 (Ans w)) ⟨T, []⟩ w := by
  have x1 := get_far
  have x2 := get_same
  have x3 := size_set
  refine wp_of_some hcd rfl ?_
  clear hcd
  refine wp_seq_k fun Kr hKr => ?_
  have HKr := hide hKr
  clear hKr
  refine Abs.step (fun T' => Nm (.pointer none) z i j T' ∧ T'.getD 7 undef = .bool false) ?_ ?_
  · intro K Q' HK
    have hN' := hide hN
    obtain ⟨hs, h0, h3, h4, h5⟩ := hN
    go_wp2_with fail
    refine HK.out _ ⟨hN'.out.keep ?_, get_same _ _ _ (by simp [hs])⟩
    repeat (refine Keep.set (by decide) ?_)
    exact Keep.refl _ _
  · rintro T2 ⟨hN, ht⟩
    exact wp_cond_false ht (wp_skip (HKr.out _ _ (last12 w T2 hN.size _ rfl)))

set_option maxHeartbeats 4000000 in
set_option maxRecDepth 4000 in
theorem bytes12_some (b o : Nat) (md : ByteArray) (ig : Igs) (w : World) (y : ZD w b o md ig) (T : Array Value) (z : Int) (i j : Value) (z0 : 0 ≤ z) (z1 : z ≤ 1048576) (hN : Nm (.pointer (some ⟨b, o, none⟩)) z i j T) (cd : Code) (hcd : sub [1, 1] Trym.f12.body = some cd) : cd.wp Trym.prog (bodyPost Trym.prog Trym.f12 (Ans w)) ⟨T, []⟩ w := by
  have x1 := get_far
  have x2 := get_same
  have x3 := size_set
  refine wp_of_some hcd rfl ?_
  clear hcd
  refine wp_seq_k fun Kr hKr => ?_
  have HKr := hide hKr
  clear hKr
  obtain ⟨-, hm, c0, xv, c1, hz⟩ := y
  obtain ⟨a, n, c, P, Tg, rfl, hn, hk, -⟩ := in_rules hz
  have HK2 := hide hk
  unfold maxLen at hm hn
  clear hk hz
  refine Abs.step (fun T' => Nm (.pointer (some ⟨b, o, none⟩)) z i j T' ∧ T'.getD 7 undef = .bool true) ?_ ?_
  · intro K Q' HK
    have hN' := hide hN
    obtain ⟨hs, h0, h3, h4, h5⟩ := hN
    go_wp2_with fail
    refine HK.out _ ⟨hN'.out.keep ?_, get_same _ _ _ (by simp [hs])⟩
    repeat (refine Keep.set (by decide) ?_)
    exact Keep.refl _ _
  · rintro T2 ⟨hN, ht⟩
    exact wp_cond_true ht (phase_d b o md a n c P Tg w hm hn c0 c1 HK2 (Exit.then Kr (bodyPost Trym.prog Trym.f12 (Ans w))) (hide fun T' h => ret12 w T' false h) (hide fun T' _ _ _ _ _ h3 => HKr.out _ _ (last12 w T' h3.size _ rfl)) T2 z _ _ z0 z1 hN _ rfl)

set_option maxHeartbeats 4000000 in
set_option maxRecDepth 4000 in
theorem bytes12_of (v : Value) (w : World) (h : ∀ (T : Array Value) (i j : Value), Nm v 0 i j T → ∀ cd, sub [1, 1] Trym.f12.body = some cd → cd.wp Trym.prog (bodyPost Trym.prog Trym.f12 (Ans w)) ⟨T, []⟩ w) : Calls Trym.prog 12 #[v] w (Ans w) := by
  have H := hide h
  have x1 := get_far
  have x2 := get_same
  have x3 := size_set
  clear h
  refine calls_of_wp Trym.func12 rfl ?_
  rw [Trym.ntmps12]
  have hs : (#[v] ++ Array.replicate (324 - (#[v] : Array Value).size) undef).size = 324 := by simp
  have h0 : (#[v] ++ Array.replicate (324 - (#[v] : Array Value).size) undef).getD 0 undef = v := by simp [Array.getD_eq_getD_getElem?]
  generalize (#[v] ++ Array.replicate (324 - (#[v] : Array Value).size) undef) = T at *
  refine Abs.step (Keep [0] T) ?_ ?_
  · intro K Q' HK
    go_wp2_with fail
    exact HK.out _ (Keep.set (by decide) (Keep.refl _ _))
  intro T1 k1
  have hs1 := k1.size.trans hs
  have h01 := (k1.slot 0 (by decide)).trans h0
  clear hs h0 k1
  refine Abs.step (fun T' => ∃ i j, Nm v 0 i j T') ?_ ?_
  · intro K Q' HK
    go_wp2_with fail
    exact HK.out _ ⟨_, _, (size_set _ _ _).trans hs1, (get_far _ _ _ _ (by decide)).trans h01, get_same _ _ _ (by rw [hs1]; decide), rfl, rfl⟩
  rintro T2 ⟨i, j, hN⟩
  exact H.out T2 i j hN _ rfl

theorem bytes5_nil (w : World) : Calls Trym.prog 12 #[.pointer none] w fun e w' => ∃ x, e = .returned (.bool x) ∧ w = w' :=
  bytes12_of _ w fun T i j hN cd hcd => bytes12_none w T 0 i j hN cd hcd
theorem bytes5_calls (b o : Nat) (md : ByteArray) (ig : Igs) (w : World) (y : ZD w b o md ig) : Calls Trym.prog 12 #[.pointer (some ⟨b, o, none⟩)] w fun e w' => ∃ x, e = .returned (.bool x) ∧ w = w' :=
  bytes12_of _ w fun T i j hN cd hcd => bytes12_some b o md ig w y T 0 i j (by omega) (by omega) hN cd hcd
end Go.Proofs.Qxb6608981aMods.Abs5
