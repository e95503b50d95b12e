/-
  zzBytes OF THE LAW OF DEEPCOPYINTO: whole.
-/
import Derived.Test.Qxb6608981aModsBodyD
import Derived.Test.Qxb6608981aModsBodyE
import Derived.Test.Qxb6608981aModsLawB
namespace Go.Proofs.Qxb6608981aMods.Abs
open Go.RowKit

/-- The function's own end. -/
theorem ret18 (w : World) (T : Array Value) (x : Bool) (h : T.getD 4 undef = .bool x) : bodyPost Trym.prog Trym.f18 (Ans w) .ret ⟨T, []⟩ w := by
  refine bodyPost_ret (results_tmp rfl _ _ _) rfl ?_
  show Ans w (.returned (T.getD 4 undef)) w
  rw [h]
  exact ans _ _
set_option maxHeartbeats 4000000 in
set_option maxRecDepth 4000 in
theorem last18 (w : World) (T : Array Value) (hs : T.size = 646) (cd : Code) (hcd : sub [1, 1, 1, 1] Trym.f18.body = some cd) : cd.wp Trym.prog (bodyPost Trym.prog Trym.f18 (Ans w)) ⟨T, []⟩ w := by
  have x2 := get_same
  refine wp_of_some hcd rfl ?_
  refine step (fun T' => T'.getD 4 undef = .bool true) ?_ ?_
  · intro K Q' HK
    go_wp2_with fail
    exact HK.out _ (get_same _ _ _ (by simp [hs]))
  · exact fun T' h => wp_ret (ret18 w T' true h)

set_option maxHeartbeats 4000000 in
set_option maxRecDepth 4000 in
theorem arm_e (v u : Value) (w : World) (y : ZO w u) (T : Array Value) (z : Int) (i j i2 j2 : Value) (z0 : 0 ≤ z) (z1 : z ≤ 1048576) (hN : Nm v u z i j i2 j2 T) (cd : Code) (hcd : sub [1, 1, 1] Trym.f18.body = some cd) : cd.wp Trym.prog (bodyPost Trym.prog Trym.f18 (Ans w)) ⟨T, []⟩ w := by
  have x1 := get_far
  have x2 := get_same
  have x3 := size_set
  refine wp_of_some hcd rfl ?_
  clear hcd
  refine wp_seq_k fun Kr hKr => ?_
  have HKr := hide hKr
  clear hKr
  rcases y with rfl | ⟨b, o, md, ig, rfl, -, hm, c0, xv, c1, hz⟩
  · refine step (fun T' => Nm v (.pointer none) z i j i2 j2 T' ∧ T'.getD 329 undef = .bool false) ?_ ?_
    · intro K Q' HK
      have hN' := hide hN
      obtain ⟨hs, h0, h1, h5, h6, h7, h8, h9⟩ := hN
      go_wp2_with fail
      refine HK.out _ ⟨hN'.out.keep ?_, get_same _ _ _ (by simp [hs])⟩
      repeat (refine Keep.set (by decide) ?_)
      exact Keep.refl _ _
    · rintro T2 ⟨hN, ht⟩
      exact wp_cond_false ht (wp_skip (HKr.out _ _ (last18 w T2 hN.size _ rfl)))
  · obtain ⟨a, n, c, P, Tg, rfl, hn, hk, -⟩ := in_rules hz
    have HK2 := hide hk
    unfold maxLen at hm hn
    clear hk hz
    refine step (fun T' => Nm v (.pointer (some ⟨b, o, none⟩)) z i j i2 j2 T' ∧ T'.getD 329 undef = .bool true) ?_ ?_
    · intro K Q' HK
      have hN' := hide hN
      obtain ⟨hs, h0, h1, h5, h6, h7, h8, h9⟩ := hN
      go_wp2_with fail
      refine HK.out _ ⟨hN'.out.keep ?_, get_same _ _ _ (by simp [hs])⟩
      repeat (refine Keep.set (by decide) ?_)
      exact Keep.refl _ _
    · rintro T2 ⟨hN, ht⟩
      exact wp_cond_true ht (phase_e b o md a n c P Tg w v i j hm hn c0 c1 HK2 (Exit.then Kr (bodyPost Trym.prog Trym.f18 (Ans w))) (hide fun T' h => ret18 w T' false h) (hide fun T' z' iv jv h1 h2 h3 => HKr.out _ _ (last18 w T' h3.size _ rfl)) T2 z _ _ z0 z1 hN _ rfl)

set_option maxHeartbeats 4000000 in
set_option maxRecDepth 4000 in
theorem arm_d (v u : Value) (w : World) (y : ZO w v) (T : Array Value) (z : Int) (i j i2 j2 : Value) (z0 : 0 ≤ z) (z1 : z ≤ 1048576) (hN : Nm v u z i j i2 j2 T) (yu : ZO w u) (cd : Code) (hcd : sub [1, 1] Trym.f18.body = some cd) : cd.wp Trym.prog (bodyPost Trym.prog Trym.f18 (Ans w)) ⟨T, []⟩ w := by
  have x1 := get_far
  have x2 := get_same
  have x3 := size_set
  refine wp_of_some hcd rfl ?_
  clear hcd
  refine wp_seq_k fun Kr hKr => ?_
  have HKr := hide hKr
  clear hKr
  rcases y with rfl | ⟨b, o, md, ig, rfl, -, hm, c0, xv, c1, hz⟩
  · refine step (fun T' => Nm (.pointer none) u z i j i2 j2 T' ∧ T'.getD 11 undef = .bool false) ?_ ?_
    · intro K Q' HK
      have hN' := hide hN
      obtain ⟨hs, h0, h1, h5, h6, h7, h8, h9⟩ := hN
      go_wp2_with fail
      refine HK.out _ ⟨hN'.out.keep ?_, get_same _ _ _ (by simp [hs])⟩
      repeat (refine Keep.set (by decide) ?_)
      exact Keep.refl _ _
    · rintro T2 ⟨hN, ht⟩
      exact wp_cond_false ht (wp_skip (HKr.out _ _ (arm_e _ u w yu T2 z i j i2 j2 z0 z1 hN _ rfl)))
  · obtain ⟨a, n, c, P, Tg, rfl, hn, hk, -⟩ := in_rules hz
    have HK2 := hide hk
    unfold maxLen at hm hn
    clear hk hz
    refine step (fun T' => Nm (.pointer (some ⟨b, o, none⟩)) u z i j i2 j2 T' ∧ T'.getD 11 undef = .bool true) ?_ ?_
    · intro K Q' HK
      have hN' := hide hN
      obtain ⟨hs, h0, h1, h5, h6, h7, h8, h9⟩ := hN
      go_wp2_with fail
      refine HK.out _ ⟨hN'.out.keep ?_, get_same _ _ _ (by simp [hs])⟩
      repeat (refine Keep.set (by decide) ?_)
      exact Keep.refl _ _
    · rintro T2 ⟨hN, ht⟩
      exact wp_cond_true ht (phase_d b o md a n c P Tg w u i2 j2 hm hn c0 c1 HK2 (Exit.then Kr (bodyPost Trym.prog Trym.f18 (Ans w))) (hide fun T' h => ret18 w T' false h) (hide fun T' z' iv jv h1 h2 h3 => HKr.out _ _ (arm_e _ u w yu T' z' iv jv i2 j2 h1 h2 h3 _ rfl)) T2 z _ _ z0 z1 hN _ rfl)

set_option maxHeartbeats 4000000 in
set_option maxRecDepth 4000 in
theorem bytes18 (v u : Value) (w : World) (y : ZO w v) (yu : ZO w u) : Calls Trym.prog 18 #[v, u] w (Ans w) := by
  have x1 := get_far
  have x2 := get_same
  have x3 := size_set
  refine calls_of_wp Trym.func18 rfl ?_
  rw [Trym.ntmps18]
  have hs : (#[v, u] ++ Array.replicate (646 - (#[v, u] : Array Value).size) undef).size = 646 := by simp
  have h0 : (#[v, u] ++ Array.replicate (646 - (#[v, u] : Array Value).size) undef).getD 0 undef = v := by simp [Array.getD_eq_getD_getElem?]
  have h1 : (#[v, u] ++ Array.replicate (646 - (#[v, u] : Array Value).size) undef).getD 1 undef = u := by simp [Array.getD_eq_getD_getElem?]
  generalize (#[v, u] ++ Array.replicate (646 - (#[v, u] : Array Value).size) undef) = T at *
  refine step (Keep [0, 1] T) ?_ ?_
  · intro K Q' HK
    go_wp2_with fail
    exact HK.out _ (Keep.set (by decide) (Keep.refl _ _))
  intro T1 k1
  have hs1 := k1.size.trans hs
  have h01 := (k1.slot 0 (by decide)).trans h0
  have h11 := (k1.slot 1 (by decide)).trans h1
  clear hs h0 h1 k1
  refine step (fun T' => ∃ i j i2 j2, Nm v u 0 i j i2 j2 T') ?_ ?_
  · intro K Q' HK
    go_wp2_with fail
    exact HK.out _ ⟨_, _, _, _, (size_set _ _ _).trans hs1, (get_far _ _ _ _ (by decide)).trans h01, (get_far _ _ _ _ (by decide)).trans h11, get_same _ _ _ (by rw [hs1]; decide), rfl, rfl, rfl, rfl⟩
  rintro T2 ⟨i, j, i2, j2, hN⟩
  exact arm_d v u w y T2 0 i j i2 j2 (by omega) (by omega) hN yu _ rfl

theorem bytes6_calls (v u : Value) (w : World) (y : ZO w v) (yu : ZO w u) : Calls Trym.prog 18 #[v, u] w fun e w' => ∃ x, e = .returned (.bool x) ∧ w = w' := bytes18 v u w y yu
end Go.Proofs.Qxb6608981aMods.Abs
