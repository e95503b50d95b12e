/-
  CONTRACT of (*IgnoreRule).DeepCopyInto.
-/
import Derived.Test.Qxb6608981aModsRules
import Derived.Laws.CopyOwn
namespace Go.Proofs.Qxb6608981aMods
open Go.RowKit

/-- Of the blocks below B, block g alone has turned, and of it the cells q and q + 1 alone. -/
structure Put (B : Nat) (w w' : World) (g q : Nat) : Prop where
  os : w'.os = w.os
  tape : w'.tape = w.tape
  output : w'.output = w.output
  size : w.heap.size ≤ w'.heap.size
  block : ∀ k, k < B → k ≠ g → w'.heap[k]? = w.heap[k]?
  cell : ∀ r, r ≠ q → r ≠ q + 1 → w'.cell? ⟨g, r, none⟩ = w.cell? ⟨g, r, none⟩
  fz : ∀ r, w'.frozen? ⟨g, r, none⟩ = w.frozen? ⟨g, r, none⟩

theorem Put.refl (B : Nat) (w : World) (g q : Nat) : Put B w w g q := ⟨rfl, rfl, rfl, Nat.le_refl _, fun _ _ _ => rfl, fun _ _ _ => rfl, fun _ => rfl⟩
theorem Put.trans {B : Nat} {w w1 w2 : World} {g q : Nat} (h : Put B w w1 g q) (k : Put B w1 w2 g q) : Put B w w2 g q :=
  ⟨k.os.trans h.os, k.tape.trans h.tape, k.output.trans h.output, Nat.le_trans h.size k.size, fun i hi hg => (k.block i hi hg).trans (h.block i hi hg), fun r h1 h2 => (k.cell r h1 h2).trans (h.cell r h1 h2), fun r => (k.fz r).trans (h.fz r)⟩
theorem Put.set {B : Nat} {w : World} {g q r : Nat} (v : Value) (h : r = q ∨ r = q + 1) : Put B w (w.setCell ⟨g, r, none⟩ v) g q :=
  ⟨rfl, rfl, rfl, by rw [set_size]; exact Nat.le_refl _, fun k _ hk => Below.heap_setCell w _ v k hk, fun p h1 h2 => set_far (by omega), fun _ => World.frozen?_setCell ..⟩
theorem Put.below {B B' : Nat} {w w' : World} {g q : Nat} (h : Below B' w w') (hB : B ≤ B') (hg : g < B') : Put B w w' g q :=
  ⟨h.os, h.tape, h.output, h.size, fun k hk _ => h.block k (by omega), fun _ _ _ => below_cell h hg, fun _ => below_frozen h hg⟩
theorem Put.toBelow {B B' : Nat} {w w' : World} {g q : Nat} (h : Put B w w' g q) (hB : B' ≤ B) (hg : B' ≤ g) : Below B' w w' :=
  ⟨h.os, h.tape, h.output, h.size, fun k hk => h.block k (by omega) (by omega)⟩
theorem Put.agree {B a b : Nat} {w w' : World} {g q : Nat} (h : Put B w w' g q) (hb : b ≤ B) (hg : g < a ∨ b ≤ g) : Agree a b w w' :=
  fun k h1 h2 => h.block k (by omega) (by omega)

theorem wpList_copy_cells {P : Program} {w : World} {ops : Array Oper} {rest : List Oper} {o : Oper} {a : Act} {Q : Exit → Act → World → Prop} (hgd : o.guard = none) (d s : Operand) (dT sT : TypeId)
    (ho : o.op = .call { callee := .builtin .copy, args := #[d, s], argTypes := #[dT, sT] }) (elem : TypeId) (hu : P.underlying dT = some (.slice elem)) (hsz : (P.info? elem).map (·.size) = some 1)
    (g dLen dCap : Nat) (ad : Addr) (sLen sCap : Nat) (hd : a.eval d = .slice (some ⟨g, 0, none⟩) dLen dCap) (hs : a.eval s = .slice (some ad) sLen sCap) (cs : List Value) (hn : cs.length = Nat.min sLen dLen)
    (hsrc : ∀ j v, cs[j]? = some v → w.cell? (ad.add j) = some v) (hc : ∀ j, j < cs.length → (w.cell? ⟨g, 0 + j, none⟩).isSome = true) (hf : ∀ j, j < cs.length → w.frozen? ⟨g, 0 + j, none⟩ = false) (h1 : ∀ v ∈ cs, v.oneCell' = true)
    (h : wpList P ops Q rest (a.put o.dst (goInt cs.length)) (w.setCells g 0 cs)) : wpList P ops Q (o :: rest) a w := by
  refine wpList_plain hgd fun K hK => ?_
  have hrun := run_copy_cells (P := P) w dT sT o.type elem g 0 dLen dCap ad sLen sCap cs hu hsz hn hsrc hc hf h1
  unfold Oper.wp
  simp [execOp, ho, resolve, invoke, builtin, hd, hs, hrun, Result.andThen]
  exact hK _ _ h

theorem setCells_heap (g : Nat) : ∀ (vs : List Value) (o : Nat) (w : World) (k : Nat), k ≠ g → (w.setCells g o vs).heap[k]? = w.heap[k]?
  | [], _, _, _, _ => rfl
  | v :: vs, o, w, k, hk => by
    rw [World.setCells, setCells_heap g vs (o + 1) _ k hk]
    exact Below.heap_setCell w _ v k hk
theorem setCells_size (g : Nat) : ∀ (vs : List Value) (o : Nat) (w : World), (w.setCells g o vs).heap.size = w.heap.size
  | [], _, _ => rfl
  | v :: vs, o, w => by rw [World.setCells, setCells_size g vs (o + 1) _, set_size]
theorem setCells_rest (g : Nat) : ∀ (vs : List Value) (o : Nat) (w : World), (w.setCells g o vs).os = w.os ∧ (w.setCells g o vs).tape = w.tape ∧ (w.setCells g o vs).output = w.output
  | [], _, _ => ⟨rfl, rfl, rfl⟩
  | v :: vs, o, w => by rw [World.setCells]; exact setCells_rest g vs (o + 1) _
theorem below_setCells {B g : Nat} (w : World) (vs : List Value) (o : Nat) (h : B ≤ g) : Below B w (w.setCells g o vs) :=
  ⟨(setCells_rest g vs o w).1, (setCells_rest g vs o w).2.1, (setCells_rest g vs o w).2.2, by rw [setCells_size]; exact Nat.le_refl _, fun k hk => setCells_heap g vs o w k (by omega)⟩

theorem neq40 (w : World) (a : Option Addr) (n c n' c' : Nat) : (binOp .neq 40 (.slice a n c) (.slice none n' c')).run Trym.prog w = .ok (.bool (!a.isNone)) w := run_neq_slice_nil_any w _ _ a n c n' c' Trym.underlying40

/-- The strings of a row, as cells. -/
def strs (n : Nat) (f : Nat → ByteArray) : List Value := (List.range n).map fun t => .string (f t)
theorem strs_len (n : Nat) (f : Nat → ByteArray) : (strs n f).length = n := by simp [strs]
theorem strs_get {n : Nat} {f : Nat → ByteArray} {j : Nat} {v : Value} (h : (strs n f)[j]? = some v) : j < n ∧ v = .string (f j) := by
  have hj : j < n := by simpa [strs] using (List.getElem?_eq_some_iff.1 h).1
  refine ⟨hj, ?_⟩
  have : (strs n f)[j]? = some (.string (f j)) := by simp [strs, hj]
  rw [this] at h
  exact (Option.some.inj h).symm
theorem strs_one {n : Nat} {f : Nat → ByteArray} : ∀ v ∈ strs n f, v.oneCell' = true := by
  intro v hv
  obtain ⟨t, _, rfl⟩ := List.mem_map.1 hv
  rfl

/-- A row of strings that has been copied in. -/
theorem own_copied {w : World} {g n : Nat} {f : Nat → ByteArray} (hc : ∀ t, t < n → ∃ v, w.cell? ⟨g, t, none⟩ = some v) (hf : ∀ t, t < n → w.frozen? ⟨g, t, none⟩ = false) : Own (w.setCells g 0 (strs n f)) g n f := by
  refine ⟨fun t ht => ?_, fun t ht => (World.frozen?_setCells g _ _ w _).trans (hf t ht)⟩
  have := World.cell?_setCells_in g (strs n f) 0 w (fun j hj => by
    rw [strs_len] at hj
    obtain ⟨v, hv⟩ := hc j hj
    rw [Nat.zero_add, hv]; rfl) t (by rw [strs_len]; exact ht)
  rw [Nat.zero_add] at this
  rw [this]
  simp [strs]

/-- What stands ahead of the target. -/
structure Half (w W : World) (gi p go q : Nat) (vP : Value) (y : Option Addr) (P : Pth) : Prop where
  put : Put w.heap.size w W go q
  e0 : W.cell? ⟨go, q, none⟩ = some vP
  e1 : W.cell? ⟨go, q + 1, none⟩ = some (.pointer y)
  i1 : W.cell? ⟨gi, p + 1, none⟩ = some (.pointer y)
  pin : PIn W w.heap.size W.heap.size vP P

theorem put_drew (B : Nat) (w : World) (n g q : Nat) : Put B w (w.drewN n) g q := ⟨rfl, rfl, rfl, Nat.le_refl _, fun _ _ _ => rfl, fun _ _ _ => rfl, fun _ => rfl⟩

theorem half_some {w w1 : World} {gi p go q n : Nat} {f : Nat → ByteArray} {y : Option Addr} {v0 u0 u1 : Value} {n1 n2 : Nat} {xs : List Value} (hn : n ≤ maxLen) (hne : gi ≠ go) (hgi : gi < w.heap.size) (hgo : go < w.heap.size)
    (c1 : w.cell? ⟨gi, p + 1, none⟩ = some (.pointer y)) (d0 : w.cell? ⟨go, q, none⟩ = some u0) (d1 : w.cell? ⟨go, q + 1, none⟩ = some u1)
    (hb1 : Below (((w.setCell ⟨go, q, none⟩ v0).setCell ⟨go, q + 1, none⟩ (.pointer y)).drewN n1).heap.size (((w.setCell ⟨go, q, none⟩ v0).setCell ⟨go, q + 1, none⟩ (.pointer y)).drewN n1) w1)
    (hown : w1.ownsRow w.heap.size 9 1 (.slice (some ⟨w.heap.size, 0, none⟩) n n) n xs) :
    Half w (((w1.setCell ⟨go, q, none⟩ (.slice (some ⟨w.heap.size, 0, none⟩) n n)).drewN n2).setCells w.heap.size 0 (strs n f)) gi p go q (.slice (some ⟨w.heap.size, 0, none⟩) n n) y (some (n, f)) := by
  have sz : (((w.setCell ⟨go, q, none⟩ v0).setCell ⟨go, q + 1, none⟩ (.pointer y)).drewN n1).heap.size = w.heap.size := by
    show ((w.setCell ⟨go, q, none⟩ v0).setCell ⟨go, q + 1, none⟩ (.pointer y)).heap.size = _
    rw [set_size, set_size]
  rw [sz] at hb1
  have gl := (hown.lt _ rfl).2
  have gl' : w.heap.size < w1.heap.size := gl
  have pA : Put w.heap.size w w1 go q := (((Put.set v0 (.inl rfl)).trans (Put.set (.pointer y) (.inr rfl))).trans (put_drew _ _ _ _ _)).trans (Put.below hb1 (Nat.le_refl _) hgo)
  have pB : Put w.heap.size w ((w1.setCell ⟨go, q, none⟩ (.slice (some ⟨w.heap.size, 0, none⟩) n n)).drewN n2) go q := (pA.trans (Put.set _ (.inl rfl))).trans (put_drew _ _ _ _ _)
  have bc := below_setCells (B := w.heap.size) ((w1.setCell ⟨go, q, none⟩ (.slice (some ⟨w.heap.size, 0, none⟩) n n)).drewN n2) (strs n f) 0 (Nat.le_refl _)
  have s0 : ((w.setCell ⟨go, q, none⟩ v0).setCell ⟨go, q + 1, none⟩ (.pointer y)).cell? ⟨go, q, none⟩ = some v0 := by rw [set_far (by omega)]; exact set_same d0
  have s1 : ((w.setCell ⟨go, q, none⟩ v0).setCell ⟨go, q + 1, none⟩ (.pointer y)).cell? ⟨go, q + 1, none⟩ = some (.pointer y) := set_same (u := u1) (by rw [set_far (by omega)]; exact d1)
  refine ⟨pB.trans (Put.below bc (Nat.le_refl _) hgo), ?_, ?_, ?_, ?_⟩
  · rw [below_cell bc hgo]
    exact set_same (u := v0) ((below_cell hb1 hgo).trans s0)
  · rw [below_cell bc hgo]
    show (w1.setCell ⟨go, q, none⟩ (.slice (some ⟨w.heap.size, 0, none⟩) n n)).cell? ⟨go, q + 1, none⟩ = _
    rw [set_far (by omega)]
    exact (below_cell hb1 hgo).trans s1
  · rw [below_cell bc hgi]
    show (w1.setCell ⟨go, q, none⟩ (.slice (some ⟨w.heap.size, 0, none⟩) n n)).cell? ⟨gi, p + 1, none⟩ = _
    rw [set_other hne, below_cell hb1 hgi]
    show ((w.setCell ⟨go, q, none⟩ v0).setCell ⟨go, q + 1, none⟩ (.pointer y)).cell? ⟨gi, p + 1, none⟩ = _
    rw [set_other hne, set_other hne]
    exact c1
  · refine ⟨w.heap.size, rfl, Nat.le_refl _, ?_, hn, own_copied (fun t ht => ?_) (fun t _ => ?_)⟩
    · rw [setCells_size]
      show w.heap.size < (w1.setCell ⟨go, q, none⟩ (.slice (some ⟨w.heap.size, 0, none⟩) n n)).heap.size
      rw [set_size]; exact gl'
    · show ∃ v, (w1.setCell ⟨go, q, none⟩ (.slice (some ⟨w.heap.size, 0, none⟩) n n)).cell? ⟨w.heap.size, t, none⟩ = some v
      rw [set_other (by omega), hown.cellAt t (by omega)]
      exact ⟨xs[t]'(by have := hown.1; omega), List.getElem?_eq_getElem _⟩
    · show (w1.setCell ⟨go, q, none⟩ (.slice (some ⟨w.heap.size, 0, none⟩) n n)).frozen? ⟨w.heap.size, t, none⟩ = false
      rw [World.frozen?_setCell]
      exact hown.frozenAt t

theorem half_none {w : World} {gi p go q : Nat} {y : Option Addr} {u0 u1 : Value} (hne : gi ≠ go) (c1 : w.cell? ⟨gi, p + 1, none⟩ = some (.pointer y)) (d0 : w.cell? ⟨go, q, none⟩ = some u0) (d1 : w.cell? ⟨go, q + 1, none⟩ = some u1) :
    Half w ((w.setCell ⟨go, q, none⟩ (.slice none 0 0)).setCell ⟨go, q + 1, none⟩ (.pointer y)) gi p go q (.slice none 0 0) y none := by
  refine ⟨(Put.set _ (.inl rfl)).trans (Put.set _ (.inr rfl)), ?_, ?_, ?_, rfl⟩
  · rw [set_far (by omega)]; exact set_same d0
  · exact set_same (u := u1) (by rw [set_far (by omega)]; exact d1)
  · rw [set_other hne, set_other hne]; exact c1

/-- The end, no target. -/
theorem end_none {w W : World} {gi p go q : Nat} {vP : Value} {P : Pth} (h : Half w W gi p go q vP none P) :
    ∃ vP' y', W.cell? ⟨go, q, none⟩ = some vP' ∧ W.cell? ⟨go, q + 1, none⟩ = some (.pointer y') ∧ RIn W w.heap.size W.heap.size vP' (.pointer y') P none ∧ Put w.heap.size w W go q :=
  ⟨vP, none, h.e0, h.e1, ⟨W.heap.size, h.put.size, Nat.le_refl _, h.pin, rfl⟩, h.put⟩

/-- The end, a target. -/
theorem end_some {w V : World} {gi p go q : Nat} {vP : Value} {y : Option Addr} {P : Pth} (h : Half w V gi p go q vP y P) (hgo : go < w.heap.size) (s : Nat → ByteArray) (n3 : Nat) :
    ∃ vP' y', ((((V.setCell ⟨go, q + 1, none⟩ (.pointer (some ⟨V.heap.size, 0, none⟩))).alloc (.cells #[.string { data := #[] }, .string { data := #[] }, .string { data := #[] }, .string { data := #[] }, .string { data := #[] }, .string { data := #[] }, .string { data := #[] }] 60)).drewN n3).setCells V.heap.size 0 (strs 7 s)).cell? ⟨go, q, none⟩ = some vP' ∧
      ((((V.setCell ⟨go, q + 1, none⟩ (.pointer (some ⟨V.heap.size, 0, none⟩))).alloc (.cells #[.string { data := #[] }, .string { data := #[] }, .string { data := #[] }, .string { data := #[] }, .string { data := #[] }, .string { data := #[] }, .string { data := #[] }] 60)).drewN n3).setCells V.heap.size 0 (strs 7 s)).cell? ⟨go, q + 1, none⟩ = some (.pointer y') ∧
      RIn ((((V.setCell ⟨go, q + 1, none⟩ (.pointer (some ⟨V.heap.size, 0, none⟩))).alloc (.cells #[.string { data := #[] }, .string { data := #[] }, .string { data := #[] }, .string { data := #[] }, .string { data := #[] }, .string { data := #[] }, .string { data := #[] }] 60)).drewN n3).setCells V.heap.size 0 (strs 7 s)) w.heap.size
        ((((V.setCell ⟨go, q + 1, none⟩ (.pointer (some ⟨V.heap.size, 0, none⟩))).alloc (.cells #[.string { data := #[] }, .string { data := #[] }, .string { data := #[] }, .string { data := #[] }, .string { data := #[] }, .string { data := #[] }, .string { data := #[] }] 60)).drewN n3).setCells V.heap.size 0 (strs 7 s)).heap.size vP' (.pointer y') P (some s) ∧
      Put w.heap.size w ((((V.setCell ⟨go, q + 1, none⟩ (.pointer (some ⟨V.heap.size, 0, none⟩))).alloc (.cells #[.string { data := #[] }, .string { data := #[] }, .string { data := #[] }, .string { data := #[] }, .string { data := #[] }, .string { data := #[] }, .string { data := #[] }] 60)).drewN n3).setCells V.heap.size 0 (strs 7 s)) go q := by
  have hws := h.put.size
  obtain ⟨A, hA⟩ : ∃ A, A = V.setCell ⟨go, q + 1, none⟩ (.pointer (some ⟨V.heap.size, 0, none⟩)) := ⟨_, rfl⟩
  have sA : A.heap.size = V.heap.size := by rw [hA, set_size]
  have pA : Put w.heap.size w A go q := by rw [hA]; exact h.put.trans (Put.set _ (.inr rfl))
  have a0 : A.cell? ⟨go, q, none⟩ = some vP := by rw [hA, set_far (by omega)]; exact h.e0
  have a1 : A.cell? ⟨go, q + 1, none⟩ = some (.pointer (some ⟨V.heap.size, 0, none⟩)) := by rw [hA]; exact set_same h.e1
  have agA : Agree w.heap.size V.heap.size V A := by rw [hA]; exact Agree.set (by omega)
  rw [← hA]
  clear hA
  have bB : Below V.heap.size A (A.alloc (.cells #[.string { data := #[] }, .string { data := #[] }, .string { data := #[] }, .string { data := #[] }, .string { data := #[] }, .string { data := #[] }, .string { data := #[] }] 60)) := (Below.refl _ _).alloc (by omega) _
  obtain ⟨C, hC⟩ : ∃ C, C = (A.alloc (.cells #[.string { data := #[] }, .string { data := #[] }, .string { data := #[] }, .string { data := #[] }, .string { data := #[] }, .string { data := #[] }, .string { data := #[] }] 60)).drewN n3 := ⟨_, rfl⟩
  have bC : Below V.heap.size A C := by rw [hC]; exact bB.trans ⟨rfl, rfl, rfl, Nat.le_refl _, fun _ _ => rfl⟩
  have sC : C.heap.size = V.heap.size + 1 := by
    rw [hC]
    show (A.alloc (.cells #[.string { data := #[] }, .string { data := #[] }, .string { data := #[] }, .string { data := #[] }, .string { data := #[] }, .string { data := #[] }, .string { data := #[] }] 60)).heap.size = _
    rw [World.size_alloc, sA]
  have hcc : ∀ t, t < 7 → ∃ v, C.cell? ⟨V.heap.size, t, none⟩ = some v := fun t ht => by
    rw [hC, ← sA]
    show ∃ v, (A.alloc (.cells #[.string { data := #[] }, .string { data := #[] }, .string { data := #[] }, .string { data := #[] }, .string { data := #[] }, .string { data := #[] }, .string { data := #[] }] 60)).cell? ⟨A.heap.size, t, none⟩ = some v
    rw [World.cell?_alloc_new]
    exact seven (p := fun t => ∃ v, (#[.string { data := #[] }, .string { data := #[] }, .string { data := #[] }, .string { data := #[] }, .string { data := #[] }, .string { data := #[] }, .string { data := #[] }] : Array Value)[t]? = some v) ⟨_, rfl⟩ ⟨_, rfl⟩ ⟨_, rfl⟩ ⟨_, rfl⟩ ⟨_, rfl⟩ ⟨_, rfl⟩ ⟨_, rfl⟩ t ht
  have hcf : ∀ t, t < 7 → C.frozen? ⟨V.heap.size, t, none⟩ = false := fun t ht => by
    rw [hC, ← sA]
    show (A.alloc (.cells #[.string { data := #[] }, .string { data := #[] }, .string { data := #[] }, .string { data := #[] }, .string { data := #[] }, .string { data := #[] }, .string { data := #[] }] 60)).frozen? ⟨A.heap.size, t, none⟩ = false
    exact seven (p := fun t => (A.alloc (.cells #[.string { data := #[] }, .string { data := #[] }, .string { data := #[] }, .string { data := #[] }, .string { data := #[] }, .string { data := #[] }, .string { data := #[] }] 60)).frozen? ⟨A.heap.size, t, none⟩ = false) (by simp [go_sem]) (by simp [go_sem]) (by simp [go_sem]) (by simp [go_sem]) (by simp [go_sem]) (by simp [go_sem]) (by simp [go_sem]) t ht
  rw [← hC]
  clear hC bB
  have bX := below_setCells (B := V.heap.size) C (strs 7 s) 0 (Nat.le_refl _)
  have bAX := bC.trans bX
  refine ⟨vP, some ⟨V.heap.size, 0, none⟩, (below_cell bAX (by omega)).trans a0, (below_cell bAX (by omega)).trans a1, ⟨V.heap.size, hws, by rw [setCells_size, sC]; omega, ?_, ?_⟩, pA.trans (Put.below bAX hws (by omega))⟩
  · exact h.pin.keep (agA.trans ((Agree.of bAX).mono (Nat.zero_le _) (Nat.le_refl _)))
  · exact ⟨V.heap.size, rfl, Nat.le_refl _, by rw [setCells_size, sC]; omega, own_copied hcc hcf⟩

set_option maxHeartbeats 1600000 in
theorem copyRule_some (gi p go q : Nat) (gp n : Nat) (f : Nat → ByteArray) (y : Option Addr) (T : Tgt) (lo hi : Nat) (w : World) (hn : n ≤ 1048576) (hne : gi ≠ go) (hgi : gi < w.heap.size) (hgo : go < w.heap.size) (hgp : gp < w.heap.size) (hpo : gp ≠ go)
    (c0 : w.cell? ⟨gi, p, none⟩ = some (.slice (some ⟨gp, 0, none⟩) n n)) (c1 : w.cell? ⟨gi, p + 1, none⟩ = some (.pointer y)) (u0 u1 : Value) (d0 : w.cell? ⟨go, q, none⟩ = some u0) (d1 : w.cell? ⟨go, q + 1, none⟩ = some u1)
    (f0 : w.frozen? ⟨go, q, none⟩ = false) (f1 : w.frozen? ⟨go, q + 1, none⟩ = false) (own : Own w gp n f) (hT : TIn w lo hi (.pointer y) T) (hhi : hi ≤ w.heap.size) (hto : go < lo ∨ hi ≤ go) :
    Calls Trym.prog 24 #[.pointer (some ⟨gi, p, none⟩), .pointer (some ⟨go, q, none⟩)] w fun e w' => e = .returned (.tuple #[]) ∧
      ∃ vP' y', w'.cell? ⟨go, q, none⟩ = some vP' ∧ w'.cell? ⟨go, q + 1, none⟩ = some (.pointer y') ∧ RIn w' w.heap.size w'.heap.size vP' (.pointer y') (some (n, f)) T ∧ Put w.heap.size w w' go q := by
  obtain ⟨i0, hi, hz0, hz1, hz2⟩ := info_parts Trym.info9
  have k46 := neq46
  go_enter Trym.func24, Trym.ntmps24
  go_wp2_with fail
  go_quiet (fail)
  go_wp2_with (at_make; refine wpList_make_full _ rfl (.tmp 28) (.tmp 28) 46 rfl w.heap.size 9 i0 (.string { data := #[] }) 1 Trym.underlying46 hi hz0 hz1 _ _ _ _ n rfl rfl rfl rfl ?b2 ?b3 ?b4 ?_)
  case b2 => rw [hz2]; omega
  case b3 => unfold maxLen; omega
  case b4 => simp
  intro w1 hown hgrow
  have hb1 := below_of_grown hgrow
  have HH : Hid (∀ n2, Half w (((w1.setCell ⟨go, q, none⟩ (.slice (some ⟨w.heap.size, 0, none⟩) n n)).drewN n2).setCells w.heap.size 0 (strs n f)) gi p go q (.slice (some ⟨w.heap.size, 0, none⟩) n n) y (some (n, f))) :=
    fun n2 => half_some (by unfold maxLen; omega) hne hgi hgo c1 d0 d1 hb1 (by simpa using hown)
  have hgs : w.heap.size < w1.heap.size := (hown.lt _ rfl).2
  have hsz : (((w.setCell ⟨go, q, none⟩ (.slice (some ⟨gp, 0, none⟩) n n)).setCell ⟨go, q + 1, none⟩ (.pointer y)).drewN nq).heap.size = w.heap.size := by
    show ((w.setCell ⟨go, q, none⟩ (.slice (some ⟨gp, 0, none⟩) n n)).setCell ⟨go, q + 1, none⟩ (.pointer y)).heap.size = _
    rw [set_size, set_size]
  rw [hsz] at hb1
  have t0 : w1.cell? ⟨gi, p, none⟩ = some (.slice (some ⟨gp, 0, none⟩) n n) := by
    rw [below_cell hb1 hgi]
    show ((w.setCell ⟨go, q, none⟩ _).setCell ⟨go, q + 1, none⟩ _).cell? ⟨gi, p, none⟩ = _
    rw [set_other hne, set_other hne]; exact c0
  have t1 : w1.cell? ⟨go, q, none⟩ = some (.slice (some ⟨gp, 0, none⟩) n n) := by
    rw [below_cell hb1 hgo]
    show ((w.setCell ⟨go, q, none⟩ _).setCell ⟨go, q + 1, none⟩ _).cell? ⟨go, q, none⟩ = _
    rw [set_far (by omega)]; exact set_same d0
  have t2 : w1.frozen? ⟨go, q, none⟩ = false := by
    rw [below_frozen hb1 hgo]
    show ((w.setCell ⟨go, q, none⟩ _).setCell ⟨go, q + 1, none⟩ _).frozen? ⟨go, q, none⟩ = _
    rw [World.frozen?_setCell, World.frozen?_setCell]; exact f0
  have HSRC : Hid (∀ j v, (strs n f)[j]? = some v → (w1.setCell ⟨go, q, none⟩ (.slice (some ⟨w.heap.size, 0, none⟩) n n)).cell? ((⟨gp, 0, none⟩ : Addr).add j) = some v) := fun j v hjv => by
    obtain ⟨hj, rfl⟩ := strs_get hjv
    rw [Addr.add_lit, Nat.zero_add, set_other hpo, below_cell hb1 hgp]
    show ((w.setCell ⟨go, q, none⟩ _).setCell ⟨go, q + 1, none⟩ _).cell? ⟨gp, j, none⟩ = _
    rw [set_other hpo, set_other hpo]; exact own.cell j hj
  have HDST : Hid (∀ j, j < (strs n f).length → ((w1.setCell ⟨go, q, none⟩ (.slice (some ⟨w.heap.size, 0, none⟩) n n)).cell? ⟨w.heap.size, 0 + j, none⟩).isSome = true ∧ (w1.setCell ⟨go, q, none⟩ (.slice (some ⟨w.heap.size, 0, none⟩) n n)).frozen? ⟨w.heap.size, 0 + j, none⟩ = false) := fun j hj => by
    rw [strs_len] at hj
    have hown' : w1.ownsRow w.heap.size 9 1 (.slice (some ⟨w.heap.size, 0, none⟩) n n) n (madeCells #[.string { data := #[] }] n).toList := by simpa using hown
    rw [Nat.zero_add, set_other (by omega), hown'.cellAt j (by omega), World.frozen?_setCell]
    exact ⟨by rw [List.getElem?_eq_getElem (by simp [size_madeCells]; omega)]; rfl, hown'.frozenAt j⟩
  clear hown hgrow hb1 hsz own c0 d0 d1 f0
  go_wp2_with fail
  refine wp_region_drew_last rfl (by kernel_rfl) (by kernel_rfl) (by kernel_rfl) (by kernel_rfl) (by kernel_rfl) ?_
  dsimp only [List.dropLast, List.getLast]
  repeat (go_big_quiet_step (fail))
  refine wpQuiet_nil ?_
  rintro _ ⟨n2, rfl⟩
  refine wpList_copy_cells rfl (.tmp 33) (.tmp 36) 46 46 rfl 9 Trym.underlying46 (by rw [hi]; simp [hz1]) w.heap.size n n ⟨gp, 0, none⟩ n n rfl rfl (strs n f) (by rw [strs_len]; simp) HSRC.out (fun j hj => (HDST.out j hj).1) (fun j hj => (HDST.out j hj).2) strs_one ?_
  have hH := HH.out n2
  clear HH HSRC HDST t0 t1 t2
  generalize (((w1.setCell ⟨go, q, none⟩ (.slice (some ⟨w.heap.size, 0, none⟩) n n)).drewN n2).setCells w.heap.size 0 (strs n f)) = W at *
  have h1 := hH.i1
  cases T with
  | none =>
    obtain rfl : y = none := by cases hT; rfl
    have HE := hide (end_none hH)
    go_wp2_with fail
    go_end0
    exact ⟨rfl, HE.out⟩
  | some s =>
    obtain ⟨gs, hy, hs1, hs2, ho⟩ := hT
    obtain rfl : y = some ⟨gs, 0, none⟩ := by cases hy; rfl
    have hsrc : ∀ t, t < 7 → W.cell? ⟨gs, t, none⟩ = some (.string (s t)) := fun t ht => by
      rw [World.cell?_of_block (w := w) (a := ⟨gs, t, none⟩) (hH.put.block gs (by omega) (by omega))]
      exact ho.cell t ht
    have z0 := hsrc 0 (by omega)
    have z1 := hsrc 1 (by omega)
    have z2 := hsrc 2 (by omega)
    have z3 := hsrc 3 (by omega)
    have z4 := hsrc 4 (by omega)
    have z5 := hsrc 5 (by omega)
    have z6 := hsrc 6 (by omega)
    have e1 := hH.e1
    have fq : W.frozen? ⟨go, q + 1, none⟩ = false := (hH.put.fz (q + 1)).trans f1
    have hws := hH.put.size
    have hgsne : gs < W.heap.size := by omega
    have hgoW : go < W.heap.size := by omega
    have hgiW : gi < W.heap.size := by omega
    clear hsrc ho
    go_wp2_with fail
    go_quiet (fail)
    have hH2 : Half w (W.drewN nq) gi p go q (.slice (some ⟨w.heap.size, 0, none⟩) n n) (some ⟨gs, 0, none⟩) (some (n, f)) := ⟨hH.put.trans (put_drew _ _ _ _ _), hH.e0, hH.e1, hH.i1, hH.pin.keep (Agree.drewN _ _ _ _)⟩
    replace h1 : (W.drewN nq).cell? ⟨gi, p + 1, none⟩ = _ := h1
    replace z0 : (W.drewN nq).cell? ⟨gs, 0, none⟩ = _ := z0
    replace z1 : (W.drewN nq).cell? ⟨gs, 1, none⟩ = _ := z1
    replace z2 : (W.drewN nq).cell? ⟨gs, 2, none⟩ = _ := z2
    replace z3 : (W.drewN nq).cell? ⟨gs, 3, none⟩ = _ := z3
    replace z4 : (W.drewN nq).cell? ⟨gs, 4, none⟩ = _ := z4
    replace z5 : (W.drewN nq).cell? ⟨gs, 5, none⟩ = _ := z5
    replace z6 : (W.drewN nq).cell? ⟨gs, 6, none⟩ = _ := z6
    replace e1 : (W.drewN nq).cell? ⟨go, q + 1, none⟩ = _ := e1
    replace fq : (W.drewN nq).frozen? ⟨go, q + 1, none⟩ = false := fq
    replace hgsne : gs < (W.drewN nq).heap.size := hgsne
    replace hgoW : go < (W.drewN nq).heap.size := hgoW
    replace hgiW : gi < (W.drewN nq).heap.size := hgiW
    replace hws : w.heap.size ≤ (W.drewN nq).heap.size := hws
    clear hH
    generalize W.drewN nq = V at *
    have hgn1 : ¬ gs = go := by omega
    have hgn2 : ¬ go = gs := by omega
    have hgn3 : ¬ go = gi := by omega
    go_wp2_with fail
    refine wp_region_drew_last rfl (by kernel_rfl) (by kernel_rfl) (by kernel_rfl) (by kernel_rfl) (by kernel_rfl) ?_
    dsimp only [List.dropLast, List.getLast]
    repeat (go_big_quiet_step (fail))
    refine wpQuiet_nil ?_
    rintro _ ⟨n3, rfl⟩
    have HE := hide (end_some hH2 hgo s n3)
    go_wp2
    go_end0
    exact ⟨rfl, HE.out⟩

set_option maxHeartbeats 1600000 in
theorem copyRule_none (gi p go q : Nat) (y : Option Addr) (T : Tgt) (lo hi : Nat) (w : World) (hne : gi ≠ go) (hgi : gi < w.heap.size) (hgo : go < w.heap.size)
    (c0 : w.cell? ⟨gi, p, none⟩ = some (.slice none 0 0)) (c1 : w.cell? ⟨gi, p + 1, none⟩ = some (.pointer y)) (u0 u1 : Value) (d0 : w.cell? ⟨go, q, none⟩ = some u0) (d1 : w.cell? ⟨go, q + 1, none⟩ = some u1)
    (f0 : w.frozen? ⟨go, q, none⟩ = false) (f1 : w.frozen? ⟨go, q + 1, none⟩ = false) (hT : TIn w lo hi (.pointer y) T) (hhi : hi ≤ w.heap.size) (hto : go < lo ∨ hi ≤ go) :
    Calls Trym.prog 24 #[.pointer (some ⟨gi, p, none⟩), .pointer (some ⟨go, q, none⟩)] w fun e w' => e = .returned (.tuple #[]) ∧
      ∃ vP' y', w'.cell? ⟨go, q, none⟩ = some vP' ∧ w'.cell? ⟨go, q + 1, none⟩ = some (.pointer y') ∧ RIn w' w.heap.size w'.heap.size vP' (.pointer y') none T ∧ Put w.heap.size w w' go q := by
  have k46 := neq46
  have hgn3 : ¬ go = gi := by omega
  cases T with
  | none =>
    obtain rfl : y = none := by cases hT; rfl
    have HE := hide (end_none (half_none hne c1 d0 d1))
    go_enter Trym.func24, Trym.ntmps24
    go_wp2_with fail
    go_end0
    exact ⟨rfl, HE.out⟩
  | some s =>
    have hH' := half_none hne c1 d0 d1
    have HH := hide hH'
    clear hH'
    obtain ⟨gs, hy, hs1, hs2, ho⟩ := hT
    obtain rfl : y = some ⟨gs, 0, none⟩ := by cases hy; rfl
    go_enter Trym.func24, Trym.ntmps24
    go_wp2_with fail
    have hH := HH.out
    clear HH c0 d0 d1 f0
    generalize (w.setCell ⟨go, q, none⟩ (.slice none 0 0)).setCell ⟨go, q + 1, none⟩ (.pointer (some ⟨gs, 0, none⟩)) = W at *
    have h1 := hH.i1
    have hsrc : ∀ t, t < 7 → W.cell? ⟨gs, t, none⟩ = some (.string (s t)) := fun t ht => by
      rw [World.cell?_of_block (w := w) (a := ⟨gs, t, none⟩) (hH.put.block gs (by omega) (by omega))]
      exact ho.cell t ht
    have z0 := hsrc 0 (by omega)
    have z1 := hsrc 1 (by omega)
    have z2 := hsrc 2 (by omega)
    have z3 := hsrc 3 (by omega)
    have z4 := hsrc 4 (by omega)
    have z5 := hsrc 5 (by omega)
    have z6 := hsrc 6 (by omega)
    have e1 := hH.e1
    have fq : W.frozen? ⟨go, q + 1, none⟩ = false := (hH.put.fz (q + 1)).trans f1
    have hws := hH.put.size
    have hgsne : gs < W.heap.size := by omega
    have hgoW : go < W.heap.size := by omega
    have hgiW : gi < W.heap.size := by omega
    clear hsrc ho
    go_quiet (fail)
    have hH2 : Half w (W.drewN nq) gi p go q (.slice none 0 0) (some ⟨gs, 0, none⟩) none := ⟨hH.put.trans (put_drew _ _ _ _ _), hH.e0, hH.e1, hH.i1, hH.pin⟩
    replace h1 : (W.drewN nq).cell? ⟨gi, p + 1, none⟩ = _ := h1
    replace z0 : (W.drewN nq).cell? ⟨gs, 0, none⟩ = _ := z0
    replace z1 : (W.drewN nq).cell? ⟨gs, 1, none⟩ = _ := z1
    replace z2 : (W.drewN nq).cell? ⟨gs, 2, none⟩ = _ := z2
    replace z3 : (W.drewN nq).cell? ⟨gs, 3, none⟩ = _ := z3
    replace z4 : (W.drewN nq).cell? ⟨gs, 4, none⟩ = _ := z4
    replace z5 : (W.drewN nq).cell? ⟨gs, 5, none⟩ = _ := z5
    replace z6 : (W.drewN nq).cell? ⟨gs, 6, none⟩ = _ := z6
    replace e1 : (W.drewN nq).cell? ⟨go, q + 1, none⟩ = _ := e1
    replace fq : (W.drewN nq).frozen? ⟨go, q + 1, none⟩ = false := fq
    replace hgsne : gs < (W.drewN nq).heap.size := hgsne
    replace hgoW : go < (W.drewN nq).heap.size := hgoW
    replace hgiW : gi < (W.drewN nq).heap.size := hgiW
    replace hws : w.heap.size ≤ (W.drewN nq).heap.size := hws
    clear hH
    generalize W.drewN nq = V at *
    have hgn1 : ¬ gs = go := by omega
    have hgn2 : ¬ go = gs := by omega
    have hgn3 : ¬ go = gi := by omega
    go_wp2_with fail
    refine wp_region_drew_last rfl (by kernel_rfl) (by kernel_rfl) (by kernel_rfl) (by kernel_rfl) (by kernel_rfl) ?_
    dsimp only [List.dropLast, List.getLast]
    repeat (go_big_quiet_step (fail))
    refine wpQuiet_nil ?_
    rintro _ ⟨n3, rfl⟩
    have HE := hide (end_some hH2 hgo s n3)
    go_wp2
    go_end0
    exact ⟨rfl, HE.out⟩

theorem copyRule_calls (gi p go q : Nat) (vP vT : Value) (P : Pth) (T : Tgt) (lo hi : Nat) (w : World) (hB : PthB P) (hne : gi ≠ go) (hgi : gi < w.heap.size) (hgo : go < w.heap.size)
    (c0 : w.cell? ⟨gi, p, none⟩ = some vP) (c1 : w.cell? ⟨gi, p + 1, none⟩ = some vT) (u0 u1 : Value) (d0 : w.cell? ⟨go, q, none⟩ = some u0) (d1 : w.cell? ⟨go, q + 1, none⟩ = some u1)
    (f0 : w.frozen? ⟨go, q, none⟩ = false) (f1 : w.frozen? ⟨go, q + 1, none⟩ = false) (hR : RIn w lo hi vP vT P T) (hhi : hi ≤ w.heap.size) (hto : go < lo ∨ hi ≤ go) :
    Calls Trym.prog 24 #[.pointer (some ⟨gi, p, none⟩), .pointer (some ⟨go, q, none⟩)] w fun e w' => e = .returned (.tuple #[]) ∧
      ∃ vP' y', w'.cell? ⟨go, q, none⟩ = some vP' ∧ w'.cell? ⟨go, q + 1, none⟩ = some (.pointer y') ∧ RIn w' w.heap.size w'.heap.size vP' (.pointer y') P T ∧ Put w.heap.size w w' go q := by
  obtain ⟨c, h1, h2, hp, ht⟩ := hR
  obtain ⟨y, rfl⟩ := ht.form
  cases P with
  | none =>
    obtain rfl : vP = .slice none 0 0 := hp
    exact copyRule_none gi p go q y T c hi w hne hgi hgo c0 c1 u0 u1 d0 d1 f0 f1 ht hhi (by omega)
  | some p' =>
    obtain ⟨n, f⟩ := p'
    obtain ⟨gp, rfl, k1, k2, hn, ho⟩ := hp
    exact copyRule_some gi p go q gp n f y T c hi w hB.1 hne hgi hgo (by omega) (by omega) c0 c1 u0 u1 d0 d1 f0 f1 ho ht hhi (by omega)
end Go.Proofs.Qxb6608981aMods
