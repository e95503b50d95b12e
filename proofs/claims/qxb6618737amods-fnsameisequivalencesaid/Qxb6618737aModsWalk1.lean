/-
  THE WALK of the law on forgotten sums.
-/
import Derived.Test.Qxb6618737aModsCalls
namespace Go.Proofs.Qxb6618737aMods
open Go.RowKit

set_option maxHeartbeats 800000 in
theorem walk1_out (x a c d : ByteArray) (hx : x.size ≤ maxLen) (ha : a.size ≤ maxLen) (hc : c.size ≤ maxLen) (hd : d.size ≤ maxLen)
    (h : zz4 x.size a.size c.size d.size = false ∨ 65536 < x.size ∨ 65536 < a.size ∨ 65536 < c.size ∨ 65536 < d.size ∨ a.toList.isEmpty = true) (w : World) :
    Calls Trym.prog 3 #[.string x, .string a, .string c, .string d] w fun e w' => e = .returned (.bool true) ∧ Below w.heap.size w w' := by
  cases hz : zz4 x.size a.size c.size d.size with
  | false =>
    clear h
    go_enter Trym.func3, Trym.ntmps3
    go_wp2_with (go_at_call 5; refine (zz4_calls _ _ _ _ hx ha hc hd _).mono ?_; rintro e w' ⟨rfl, rfl⟩)
    go_ret
    exact ⟨rfl, Below.refl _ _⟩
  | true =>
    have h' : 65536 < x.size ∨ 65536 < a.size ∨ 65536 < c.size ∨ 65536 < d.size ∨ a.toList.isEmpty = true := by
      rcases h with h | h
      · rw [hz] at h; cases h
      · exact h
    clear h
    by_cases h1 : 65536 < x.size
    · clear h'
      go_enter Trym.func3, Trym.ntmps3
      go_wp2_with (go_at_call 5; refine (zz4_calls _ _ _ _ hx ha hc hd _).mono ?_; rintro e w' ⟨rfl, rfl⟩)
      go_ret
      exact ⟨rfl, Below.refl _ _⟩
    by_cases h2 : 65536 < a.size
    · clear h'
      go_enter Trym.func3, Trym.ntmps3
      go_wp2_with (go_at_call 5; refine (zz4_calls _ _ _ _ hx ha hc hd _).mono ?_; rintro e w' ⟨rfl, rfl⟩)
      go_ret
      exact ⟨rfl, Below.refl _ _⟩
    by_cases h3 : 65536 < c.size
    · clear h'
      go_enter Trym.func3, Trym.ntmps3
      go_wp2_with (go_at_call 5; refine (zz4_calls _ _ _ _ hx ha hc hd _).mono ?_; rintro e w' ⟨rfl, rfl⟩)
      go_ret
      exact ⟨rfl, Below.refl _ _⟩
    by_cases h4 : 65536 < d.size
    · clear h'
      go_enter Trym.func3, Trym.ntmps3
      go_wp2_with (go_at_call 5; refine (zz4_calls _ _ _ _ hx ha hc hd _).mono ?_; rintro e w' ⟨rfl, rfl⟩)
      go_ret
      exact ⟨rfl, Below.refl _ _⟩
    have h5 : a.toList.isEmpty = true := by simpa [h1, h2, h3, h4] using h'
    clear h'
    go_enter Trym.func3, Trym.ntmps3
    go_wp2_with (go_at_call 5; refine (zz4_calls _ _ _ _ hx ha hc hd _).mono ?_; rintro e w' ⟨rfl, rfl⟩)
    go_ret
    exact ⟨rfl, Below.refl _ _⟩

set_option maxHeartbeats 800000 in
theorem walk1_in (x a c d : ByteArray) (hx : x.size ≤ 65536) (ha : a.size ≤ 65536) (hc : c.size ≤ 65536) (hd : d.size ≤ 65536) (h5 : a.toList.isEmpty = false) (w : World) :
    Calls Trym.prog 3 #[.string x, .string a, .string c, .string d] w fun e w' => e = .returned (.bool true) ∧ Below w.heap.size w w' := by
  have hz : zz4 x.size a.size c.size d.size = true := decide_eq_true (by omega)
  go_enter Trym.func3, Trym.ntmps3
  go_wp2_with (go_at_call 5; refine (zz4_calls _ _ _ _ (by unfold maxLen; omega) (by unfold maxLen; omega) (by unfold maxLen; omega) (by unfold maxLen; omega) _).mono ?_; rintro e w' ⟨rfl, rfl⟩)
  have hB : Hid (Below w.heap.size w (((w.alloc (Obj.cells #[Value.string x, Value.string a] 24)).alloc (Obj.cells #[Value.string a, Value.string { data := #[] }] 24)).alloc (Obj.cells #[Value.string c, Value.string d] 24))) :=
    (((Below.refl _ _).alloc (Nat.le_refl _) _).alloc (by simp) _).alloc (by simp; omega) _
  generalize hW : ((w.alloc (Obj.cells #[Value.string x, Value.string a] 24)).alloc (Obj.cells #[Value.string a, Value.string { data := #[] }] 24)).alloc (Obj.cells #[Value.string c, Value.string d] 24) = W at *
  have hs : W.heap.size = w.heap.size + 3 := by rw [← hW]; simp
  have c0 : W.cell? ⟨w.heap.size, 0, none⟩ = some (.string x) := by rw [← hW]; simp [go_sem]
  have c1 : W.cell? ⟨w.heap.size, 1, none⟩ = some (.string a) := by rw [← hW]; simp [go_sem]
  have c2 : W.cell? ⟨w.heap.size + 1, 0, none⟩ = some (.string a) := by rw [← hW]; simp [go_sem]
  have c3 : W.cell? ⟨w.heap.size + 1, 1, none⟩ = some (.string { data := #[] }) := by rw [← hW]; simp [go_sem]
  have c4 : W.cell? ⟨w.heap.size + 1 + 1, 0, none⟩ = some (.string c) := by rw [← hW]; simp [go_sem]
  have c5 : W.cell? ⟨w.heap.size + 1 + 1, 1, none⟩ = some (.string d) := by rw [← hW]; simp [go_sem]
  clear hW
  have n0 := Near.cellAt (B := w.heap.size + 3) (by omega) c0
  have n1 := Near.cellAt (B := w.heap.size + 3) (by omega) c1
  have n2 := Near.cellAt (B := w.heap.size + 3) (by omega) c2
  have n3 := Near.cellAt (B := w.heap.size + 3) (by omega) c3
  have n4 := Near.cellAt (B := w.heap.size + 3) (by omega) c4
  have n5 := Near.cellAt (B := w.heap.size + 3) (by omega) c5
  have hne : Nonempty (Near (w.heap.size + 3) W) := ⟨⟨W, Below.refl _ _⟩⟩
  have e1 : ofS x a = a := ofS_some x a h5
  have e2 : ofS a { data := #[] } = a := ofS_empty a
  have S1 : Hid (sameB x a a { data := #[] } = true) := by show _ = _; unfold sameB; rw [e1, e2]; simp
  have S2 : Hid (sameB a { data := #[] } x a = true) := by show _ = _; unfold sameB; rw [e1, e2]; simp
  have S3 : Hid (sameB x a c d = (a.toList == (ofS c d).toList)) := by show _ = _; unfold sameB; rw [e1]
  have S4 : Hid (sameB a { data := #[] } c d = (a.toList == (ofS c d).toList)) := by show _ = _; unfold sameB; rw [e2]
  have S5 : Hid (sameB c d x a = ((ofS c d).toList == a.toList)) := by show _ = _; unfold sameB; rw [e1]
  have S6 : Hid (sameB c d a { data := #[] } = ((ofS c d).toList == a.toList)) := by show _ = _; unfold sameB; rw [e2]
  generalize (a.toList == (ofS c d).toList) = q at *
  generalize ((ofS c d).toList == a.toList) = r at *
  clear e1 e2 c0 c1 c2 c3 c4 c5
  refine wp_region_near (w.heap.size + 3) (by kernel_rfl) (by kernel_rfl) ?_
  repeat (go_big_quiet_step ((go_at_call 6; exact near_call (by omega) _ (same_at _ _ _ _ _ (by first | exact S1.out | exact S2.out | exact S3.out | exact S4.out | exact S5.out | exact S6.out) _))))
  refine wpQuiet_nil ?_
  rintro _ ⟨u, rfl⟩
  clear n0 n1 n2 n3 n4 n5
  go_wp2
  go_ret
  exact ⟨rfl, hB.out.trans (u.h.mono (by omega))⟩

theorem walk1 (x a c d : ByteArray) (hx : x.size ≤ maxLen) (ha : a.size ≤ maxLen) (hc : c.size ≤ maxLen) (hd : d.size ≤ maxLen) (w : World) :
    Calls Trym.prog 3 #[.string x, .string a, .string c, .string d] w fun e w' => e = .returned (.bool true) ∧ Below w.heap.size w w' := by
  by_cases h : zz4 x.size a.size c.size d.size = false ∨ 65536 < x.size ∨ 65536 < a.size ∨ 65536 < c.size ∨ 65536 < d.size ∨ a.toList.isEmpty = true
  · exact walk1_out x a c d hx ha hc hd h w
  · simp only [not_or, Nat.not_lt, Bool.not_eq_true] at h
    exact walk1_in x a c d h.2.1 h.2.2.1 h.2.2.2.1 h.2.2.2.2.1 h.2.2.2.2.2 w
end Go.Proofs.Qxb6618737aMods
