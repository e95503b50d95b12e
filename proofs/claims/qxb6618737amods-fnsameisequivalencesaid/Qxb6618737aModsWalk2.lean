/-
  THE WALK of the law: Same is an equivalence.
-/
import Derived.Test.Qxb6618737aModsWalk1
namespace Go.Proofs.Qxb6618737aMods
open Go.RowKit

/-- The first step into the class. -/
theorem near_first {B : Nat} {W : World} {f : FuncId} {args : Array Value} {v : Value} (hB : B ≤ W.heap.size)
    (h : Calls Trym.prog f args W fun e w' => e = .returned v ∧ Below W.heap.size W w') : Calls Trym.prog f args W fun e w'' => e = .returned v ∧ ∃ u' : Near B W, w'' = u'.w :=
  h.mono fun _ w' ⟨he, hb⟩ => ⟨he, ⟨w', hb.mono hB⟩, rfl⟩

theorem wp_region_near' {P : Program} {id : Nat} {Q : Exit → Act → World → Prop} {a : Act} {W : World} {l : List Oper} {B : Nat} (u : Near B W) (hm : P.follows .mixedOrders = true) (hB : Region.lexB .any l.toArray = true)
    (h : wpQuiet P l.toArray (fun w' => ∃ u : Near B W, w' = u.w) (fun a' => ∀ w', (∃ u : Near B W, w' = u.w) → Q .normal a' w') l a) : (Code.region id l.toArray true).wp P Q a u.w :=
  wp_region_quiet (C := fun w' => ∃ u : Near B W, w' = u.w) hm hB ⟨⟨u.w.drew, u.h.drew⟩, rfl⟩ (by simpa using h)

theorem tail_below {w W w9 : World} {n : Nat} {o1 o2 : Obj} (hB : Below w.heap.size w W) (hs : W.heap.size = w.heap.size + n) (u : Near (w.heap.size + n) W)
    (hb : Below ((u.w.alloc o1).alloc o2).heap.size ((u.w.alloc o1).alloc o2) w9) : Below w.heap.size w w9 := by
  have h1 := u.h.size
  have h2 : Below w.heap.size w u.w := hB.trans (u.h.mono (by omega))
  exact ((h2.alloc (by omega) o1).alloc (by simp; omega) o2).trans (hb.mono (by simp; omega))

set_option maxHeartbeats 1600000 in
theorem walk2_in (a f b g c h : ByteArray) (ha : a.size ≤ 65536) (hf : f.size ≤ 65536) (hb : b.size ≤ 65536) (hg : g.size ≤ 65536) (hc : c.size ≤ 65536) (hh : h.size ≤ 65536) (w : World) 
    (p q r : Bool) (P1 : Hid (sameB a f b g = p)) (P2 : Hid (sameB b g a f = p)) (Q1 : Hid (sameB b g c h = q)) (Q2 : Hid (sameB c h b g = q)) (R1 : Hid (sameB a f c h = r)) (R2 : Hid (sameB c h a f = r)) (HT : Hid ((!(p && q) || r) = true)) :
    Calls Trym.prog 4 #[.string a, .string f, .string b, .string g, .string c, .string h] w fun e w' => e = .returned (.bool true) ∧ Below w.heap.size w w' := by
  have hz : zz6 a.size f.size b.size g.size c.size h.size = true := decide_eq_true (by omega)
  have S0 : Hid (sameB a f a f = true) := sameB_self a f
  have S1 : Hid (sameB b g b g = true) := sameB_self b g
  have S2 : Hid (sameB c h c h = true) := sameB_self c h
  have S3 : Hid (sameB a { data := #[] } b { data := #[] } = (a.toList == b.toList)) := by show _ = _; unfold sameB; rw [ofS_empty, ofS_empty]
  go_enter Trym.func4, Trym.ntmps4
  go_wp2_with (go_at_call 7; refine (zz6_calls _ _ _ _ _ _ (by unfold maxLen; omega) (by unfold maxLen; omega) (by unfold maxLen; omega) (by unfold maxLen; omega) (by unfold maxLen; omega) (by unfold maxLen; omega) _).mono ?_; rintro e w' ⟨rfl, rfl⟩)
  have hB : Hid (Below w.heap.size w (((w.alloc (Obj.cells #[Value.string a, Value.string f] 24)).alloc (Obj.cells #[Value.string b, Value.string g] 24)).alloc (Obj.cells #[Value.string c, Value.string h] 24))) :=
    (((Below.refl _ _).alloc (Nat.le_refl _) _).alloc (by simp) _).alloc (by simp; omega) _
  generalize hW : ((w.alloc (Obj.cells #[Value.string a, Value.string f] 24)).alloc (Obj.cells #[Value.string b, Value.string g] 24)).alloc (Obj.cells #[Value.string c, Value.string h] 24) = W at *
  have hs : W.heap.size = w.heap.size + 3 := by rw [← hW]; simp
  have c0 : W.cell? ⟨w.heap.size, 0, none⟩ = some (.string a) := by rw [← hW]; simp [go_sem]
  have c1 : W.cell? ⟨w.heap.size, 1, none⟩ = some (.string f) := by rw [← hW]; simp [go_sem]
  have c2 : W.cell? ⟨w.heap.size + 1, 0, none⟩ = some (.string b) := by rw [← hW]; simp [go_sem]
  have c3 : W.cell? ⟨w.heap.size + 1, 1, none⟩ = some (.string g) := by rw [← hW]; simp [go_sem]
  have c4 : W.cell? ⟨w.heap.size + 1 + 1, 0, none⟩ = some (.string c) := by rw [← hW]; simp [go_sem]
  have c5 : W.cell? ⟨w.heap.size + 1 + 1, 1, none⟩ = some (.string h) := by rw [← hW]; simp [go_sem]
  clear hW
  have n0 := Near.cellAt (B := w.heap.size + 3) (by omega) c0
  have n1 := Near.cellAt (B := w.heap.size + 3) (by omega) c1
  have n2 := Near.cellAt (B := w.heap.size + 3) (by omega) c2
  have n3 := Near.cellAt (B := w.heap.size + 3) (by omega) c3
  have n4 := Near.cellAt (B := w.heap.size + 3) (by omega) c4
  have n5 := Near.cellAt (B := w.heap.size + 3) (by omega) c5
  have hne : Nonempty (Near (w.heap.size + 3) W) := ⟨⟨W, Below.refl _ _⟩⟩
  clear c0 c1 c2 c3 c4 c5
  refine (near_first (B := w.heap.size + 3) (by omega) (same_at _ _ _ _ _ S0.out _)).mono ?_
  rintro e _ ⟨rfl, u1, rfl⟩
  go_wp2_with fail
  refine (near_call (by omega) _ (same_at _ _ _ _ _ S1.out _)).mono ?_
  rintro e _ ⟨rfl, u2, rfl⟩
  go_wp2_with fail
  refine (near_call (by omega) _ (same_at _ _ _ _ _ S2.out _)).mono ?_
  rintro e _ ⟨rfl, u3, rfl⟩
  go_wp2_with fail
  refine wp_region_near' u3 (by kernel_rfl) (by kernel_rfl) ?_
  repeat (go_big_quiet_step ((go_at_call 6; exact near_call (by omega) _ (same_at _ _ _ _ _ (by first | exact P1.out | exact P2.out | exact Q1.out | exact Q2.out | exact R1.out | exact R2.out) _))))
  refine wpQuiet_nil ?_
  rintro _ ⟨u4, rfl⟩
  go_wp2_with fail
  refine (near_call (by omega) _ (same_at _ _ _ _ _ P1.out _)).mono ?_
  cases p with
  | false =>
    rintro e _ ⟨rfl, u, rfl⟩
    go_wp2_with fail
    refine (same_at _ _ _ _ _ S3.out _).mono ?_
    rintro e w9 ⟨rfl, hb9⟩
    clear n0 n1 n2 n3 n4 n5
    go_wp2
    go_ret
    exact ⟨rfl, tail_below hB.out hs u hb9⟩
  | true =>
    rintro e _ ⟨rfl, u5, rfl⟩
    go_wp2_with fail
    refine (near_call (by omega) _ (same_at _ _ _ _ _ Q1.out _)).mono ?_
    cases q with
    | false =>
      rintro e _ ⟨rfl, u, rfl⟩
      go_wp2_with fail
      refine (same_at _ _ _ _ _ S3.out _).mono ?_
      rintro e w9 ⟨rfl, hb9⟩
      clear n0 n1 n2 n3 n4 n5
      go_wp2
      go_ret
      exact ⟨rfl, tail_below hB.out hs u hb9⟩
    | true =>
      have hr : r = true := by simpa using HT.out
      subst hr
      rintro e _ ⟨rfl, u6, rfl⟩
      go_wp2_with fail
      refine (near_call (by omega) _ (same_at _ _ _ _ _ R1.out _)).mono ?_
      rintro e _ ⟨rfl, u, rfl⟩
      go_wp2_with fail
      refine (same_at _ _ _ _ _ S3.out _).mono ?_
      rintro e w9 ⟨rfl, hb9⟩
      clear n0 n1 n2 n3 n4 n5
      go_wp2
      go_ret
      exact ⟨rfl, tail_below hB.out hs u hb9⟩

set_option maxHeartbeats 1600000 in
theorem walk2_out (a f b g c h : ByteArray) (ha : a.size ≤ maxLen) (hf : f.size ≤ maxLen) (hb : b.size ≤ maxLen) (hg : g.size ≤ maxLen) (hc : c.size ≤ maxLen) (hh : h.size ≤ maxLen) (w : World)
    (ho : zz6 a.size f.size b.size g.size c.size h.size = false ∨ 65536 < a.size ∨ 65536 < f.size ∨ 65536 < b.size ∨ 65536 < g.size ∨ 65536 < c.size ∨ 65536 < h.size) :
    Calls Trym.prog 4 #[.string a, .string f, .string b, .string g, .string c, .string h] w fun e w' => e = .returned (.bool true) ∧ Below w.heap.size w w' := by
  cases hz : zz6 a.size f.size b.size g.size c.size h.size with
  | false =>
    clear ho
    go_enter Trym.func4, Trym.ntmps4
    go_wp2_with (go_at_call 7; refine (zz6_calls _ _ _ _ _ _ ha hf hb hg hc hh _).mono ?_; rintro e w' ⟨rfl, rfl⟩)
    go_ret
    exact ⟨rfl, Below.refl _ _⟩
  | true =>
    have h' : 65536 < a.size ∨ 65536 < f.size ∨ 65536 < b.size ∨ 65536 < g.size ∨ 65536 < c.size ∨ 65536 < h.size := by
      rcases ho with h | h
      · rw [hz] at h; cases h
      · exact h
    clear ho
    rcases h' with h1 | h1 | h1 | h1 | h1 | h1
    · go_enter Trym.func4, Trym.ntmps4
      go_wp2_with (go_at_call 7; refine (zz6_calls _ _ _ _ _ _ ha hf hb hg hc hh _).mono ?_; rintro e w' ⟨rfl, rfl⟩)
      go_ret
      exact ⟨rfl, Below.refl _ _⟩
    all_goals
      go_enter Trym.func4, Trym.ntmps4
      go_wp2_with (first | (go_at_call 7; refine (zz6_calls _ _ _ _ _ _ ha hf hb hg hc hh _).mono ?_; rintro e w' ⟨rfl, rfl⟩) | (go_at_call 6; fail))
      all_goals
        go_ret
        exact ⟨rfl, Below.refl _ _⟩

theorem walk2 (a f b g c h : ByteArray) (ha : a.size ≤ maxLen) (hf : f.size ≤ maxLen) (hb : b.size ≤ maxLen) (hg : g.size ≤ maxLen) (hc : c.size ≤ maxLen) (hh : h.size ≤ maxLen) (w : World) :
    Calls Trym.prog 4 #[.string a, .string f, .string b, .string g, .string c, .string h] w fun e w' => e = .returned (.bool true) ∧ Below w.heap.size w w' := by
  by_cases ho : zz6 a.size f.size b.size g.size c.size h.size = false ∨ 65536 < a.size ∨ 65536 < f.size ∨ 65536 < b.size ∨ 65536 < g.size ∨ 65536 < c.size ∨ 65536 < h.size
  · exact walk2_out a f b g c h ha hf hb hg hc hh w ho
  · simp only [not_or, Nat.not_lt] at ho
    have ht : (!(sameB a f b g && sameB b g c h) || sameB a f c h) = true := by
      cases h1 : sameB a f b g with
      | false => rfl
      | true =>
        cases h2 : sameB b g c h with
        | false => rfl
        | true => rw [sameB_trans a f b g c h h1 h2]; rfl
    exact walk2_in a f b g c h ho.2.1 ho.2.2.1 ho.2.2.2.1 ho.2.2.2.2.1 ho.2.2.2.2.2.1 ho.2.2.2.2.2.2 w _ _ _ (Eq.refl _) (sameB_comm _ _ _ _) (Eq.refl _) (sameB_comm _ _ _ _) (Eq.refl _) (sameB_comm _ _ _ _) ht
end Go.Proofs.Qxb6618737aMods
