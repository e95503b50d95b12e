/-
  DEEPCOPY's block bears no frozen cell; such a block's address is no other's.
-/
import Derived.Test.Qxb6608981aModsDeep
import Derived.LaidEqlPtr
namespace Go.Proofs.Qxb6608981aMods
open Go.RowKit

set_option maxHeartbeats 800000 in
theorem deepCopy_fresh (gx a b : Nat) (md : ByteArray) (ig : Igs) (w : World) (hB : IgsB ig) (hx : DIn w a b gx md ig) (hb : b ≤ w.heap.size) :
    Calls Trym.prog 15 #[.pointer (some ⟨gx, 0, none⟩)] w fun e w' => e = .returned (.pointer (some ⟨w.heap.size, 0, none⟩)) ∧ DIn w' w.heap.size w'.heap.size w.heap.size md ig ∧ Below w.heap.size w w' ∧ ∀ p, w'.frozen? ⟨w.heap.size, p, none⟩ = false := by
  have ba : Below w.heap.size w (w.alloc (.cells #[.string { data := #[] }, .slice none 0 0] 42)) := (Below.refl _ _).alloc (Nat.le_refl _) _
  have HC := hide (copyDrift_calls gx w.heap.size a b md ig (w.alloc (.cells #[.string { data := #[] }, .slice none 0 0] 42)) hB (hx.keep ((Agree.of ba).mono (Nat.zero_le _) hb)) (by simp; omega) (by simp) (.inr hb)
    (.string { data := #[] }) (.slice none 0 0) (by simp) (by simp) (by simp [go_sem]) (by simp [go_sem]))
  clear hx
  go_enter Trym.func15, Trym.ntmps15
  go_wp2_with fail
  refine HC.out.mono ?_
  rintro e w' ⟨rfl, hD, hP⟩
  have HF : Hid (DIn w' w.heap.size w'.heap.size w.heap.size md ig ∧ Below w.heap.size w w' ∧ ∀ p, w'.frozen? ⟨w.heap.size, p, none⟩ = false) := ⟨hD, ba.trans (hP.toBelow (by simp) (Nat.le_refl _)), fun p => (hP.fz p).trans (by simp [go_sem])⟩
  clear hD hP HC ba
  go_wp2
  go_ret
  exact ⟨rfl, HF.out⟩

theorem Trym.info42 : (Trym.prog.info? 42).map (fun i => i.size) = some 2 := by kernel_rfl

theorem cells_of {w : World} {g o : Nat} {v : Value} (h : w.cell? ⟨g, o, none⟩ = some v) : ∃ c t r, w.heap[g]? = some (.cells c t r) ∧ o < c.size := by
  unfold World.cell? at h
  split at h
  · rename_i c t r heq
    refine ⟨c, t, r, heq, ?_⟩
    simp only [Option.isSome_none, Bool.false_eq_true, if_false] at h
    exact (Array.getElem?_eq_some_iff.mp h).1
  · cases h

theorem ptr_ne {w : World} {a b : Nat} {u v : Value} (hne : a ≠ b) (ha : w.cell? ⟨a, 0, none⟩ = some u) (hb : w.cell? ⟨b, 0, none⟩ = some v) (hz : ∀ p, w.frozen? ⟨a, p, none⟩ = false) :
    (binOp .eql 34 (.pointer (some ⟨a, 0, none⟩)) (.pointer (some ⟨b, 0, none⟩))).run Trym.prog w = .ok (.bool false) w := by
  obtain ⟨i, hi, hs⟩ := Option.map_eq_some_iff.1 Trym.info42
  obtain ⟨ca, ta, ra, hA, hca⟩ := cells_of ha
  obtain ⟨cb, tb, rb, hBb, hcb⟩ := cells_of hb
  have hz0 : ∀ p, w.frozen? ⟨a, p, none⟩ = false := hz
  have hn : ¬ ca.size = 0 := by omega
  have hnb : ¬ cb.size = 0 := by omega
  have same : (sameAddr ⟨a, 0, none⟩ ⟨b, 0, none⟩).run Trym.prog w = .ok false w := by
    simp [sameAddr, hne, hz0, hA, hBb, noView, viewAt, World.shape?, mayBeOne, stringish, hn, hnb]
  have h : ∀ d : Nat, (Op.equalIn (d + 1) 34 (.pointer (some ⟨a, 0, none⟩)) (.pointer (some ⟨b, 0, none⟩))).run Trym.prog w = .ok false w := fun d => by
    simp [Op.equalIn, run_underlying Trym.underlying34, sizeOf, typeInfo, hi, hs, same]
  simp only [binOp]
  simp [Op.equal, Op.maxDepth, h 9999]
end Go.Proofs.Qxb6608981aMods
