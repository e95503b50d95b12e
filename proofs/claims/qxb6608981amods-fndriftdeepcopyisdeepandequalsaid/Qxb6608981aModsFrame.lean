/-
  FRAMES THAT ARE NOT WRITTEN OUT: where a function has many hundred slots, a walk is told only what it needs of them.
-/
import Derived.Test.Qxb6608981aModsRows
import Derived.WalkKit
import Derived.ProofKit
import Derived.OpenShut
import Derived.WalkSpells
namespace Go.Proofs.Qxb6608981aMods.Abs
open Go.RowKit

theorem get_far (t : Array Value) (i j : Nat) (v : Value) (h : i ≠ j) : (t.setIfInBounds i v).getD j undef = t.getD j undef := by
  simp [Array.getD_eq_getD_getElem?, h]
theorem get_same (t : Array Value) (i : Nat) (v : Value) (h : i < t.size) : (t.setIfInBounds i v).getD i undef = v := by
  simp [Array.getD_eq_getD_getElem?, h]
theorem size_set (t : Array Value) (i : Nat) (v : Value) : (t.setIfInBounds i v).size = t.size := by simp
/-- The slots of S are as they were. -/
structure Keep (S : List Nat) (T T' : Array Value) : Prop where
  size : T'.size = T.size
  slot : ∀ s, s ∈ S → T'.getD s undef = T.getD s undef
theorem Keep.refl (S : List Nat) (T : Array Value) : Keep S T T := ⟨rfl, fun _ _ => rfl⟩
theorem Keep.set {S : List Nat} {T T' : Array Value} {d : Nat} {v : Value} (hd : d ∉ S) (h : Keep S T T') : Keep S T (T'.setIfInBounds d v) :=
  ⟨(size_set _ _ _).trans h.size, fun s hs => (get_far _ _ _ _ (fun e => hd (by rw [e]; exact hs))).trans (h.slot s hs)⟩

variable {P : Program} {Q : Exit → Act → World → Prop} {w : World} {T : Array Value}

/-- One region, then the rest. -/
theorem step {R rest : Code} (F : Array Value → Prop) (hR : ∀ (K : Act → World → Prop) (Q' : Exit → Act → World → Prop), Hid (∀ T', F T' → K ⟨T', []⟩ w) → R.wp P (Exit.then K Q') ⟨T, []⟩ w)
    (hn : ∀ T', F T' → rest.wp P Q ⟨T', []⟩ w) : (Code.seq R rest).wp P Q ⟨T, []⟩ w :=
  wp_seq_k fun K hK => hR K Q fun T' h => hK _ _ (hn T' h)

/-- A test that may send the function home with false; what follows else. -/
theorem check_of {R : Code} {t idf r : Nat} {ty : TypeId} {pos : String} (F : Array Value → Prop) (c : Bool) (hsz : ∀ T', F T' → r < T'.size)
    (hret : ∀ T' : Array Value, T'.getD r undef = .bool false → Q .ret ⟨T', []⟩ w)
    (hR : ∀ (K : Act → World → Prop) (Q' : Exit → Act → World → Prop), Hid (∀ T', F T' → T'.getD t undef = .bool c → K ⟨T', []⟩ w) → R.wp P (Exit.then K Q') ⟨T, []⟩ w)
    (hn : c = false → ∀ T', F T' → Q .normal ⟨T', []⟩ w) :
    (Code.seq R (.cond (.tmp t) (.seq (.region idf #[{ dst := some r, op := .assign (.const (.bool false)), type := ty, pos := pos, after := #[], guard := none }] false) .ret) .skip)).wp P Q ⟨T, []⟩ w := by
  refine wp_seq_k fun K hK => hR K Q fun T' h ht => hK _ _ ?_
  refine wp_cond_split (t := c) ht (fun _ => ?_) (fun hc => wp_skip (hn hc T' h))
  refine wp_seq_k fun K2 hK2 => ?_
  refine wp_region_list ?_
  have hgo : K2 ⟨T'.setIfInBounds r (.bool false), []⟩ w := hK2 _ _ (wp_ret (hret _ (get_same _ _ _ (hsz T' h))))
  simp only [wpList]
  have : Region.wanted { dst := some r, op := .assign (.const (.bool false)), type := ty, pos := pos, after := #[], guard := none } (yielded #[{ dst := some r, op := .assign (.const (.bool false)), type := ty, pos := pos, after := #[], guard := none }] T') = true := by simp [Region.wanted]
  simp only [this, if_true]
  exact .inl (BigFrame.wp_assign _ rfl hgo)
theorem check {R rest : Code} {t idf r : Nat} {ty : TypeId} {pos : String} (F : Array Value → Prop) (c : Bool) (hsz : ∀ T', F T' → r < T'.size)
    (hret : ∀ T' : Array Value, T'.getD r undef = .bool false → Q .ret ⟨T', []⟩ w)
    (hR : ∀ (K : Act → World → Prop) (Q' : Exit → Act → World → Prop), Hid (∀ T', F T' → T'.getD t undef = .bool c → K ⟨T', []⟩ w) → R.wp P (Exit.then K Q') ⟨T, []⟩ w)
    (hn : c = false → ∀ T', F T' → rest.wp P Q ⟨T', []⟩ w) :
    (Code.seq (Code.seq R (.cond (.tmp t) (.seq (.region idf #[{ dst := some r, op := .assign (.const (.bool false)), type := ty, pos := pos, after := #[], guard := none }] false) .ret) .skip)) rest).wp P Q ⟨T, []⟩ w :=
  wp_seq_k fun K hK => check_of (Q := Exit.then K Q) F c hsz hret hR fun hc T' h => hK _ _ (hn hc T' h)

/-- A counting loop: I k holds ahead of round k. -/
theorem loop_for {id idb t i : Nat} {Rc BODY Rinc : Code} (n : Nat) (I : Nat → Array Value → Prop) (h0 : I 0 T) (hi : ∀ k T, I k T → T.getD i undef = .int .i64 (k : Int))
    (hc : ∀ k T, k ≤ n → I k T → ∀ (K : Act → World → Prop) (Q' : Exit → Act → World → Prop), Hid (∀ T', I k T' → T'.getD t undef = .bool (decide (k < n)) → K ⟨T', []⟩ w) → Rc.wp P (Exit.then K Q') ⟨T, []⟩ w)
    (hb : ∀ k T, k < n → I k T → ∀ Q' : Exit → Act → World → Prop, (∀ T', I k T' → Q' .normal ⟨T', []⟩ w) → (∀ a w, Q .ret a w → Q' .ret a w) → BODY.wp P Q' ⟨T, []⟩ w)
    (hinc : ∀ k T, k < n → I k T → ∀ Q' : Exit → Act → World → Prop, (Hid (∀ T', I (k + 1) T' → Q' .normal ⟨T', []⟩ w)) → Rinc.wp P Q' ⟨T, []⟩ w)
    (hx : ∀ T', I n T' → Q .normal ⟨T', []⟩ w) :
    (Code.block id (.loop (.seq (.seq Rc (.cond (.tmp t) .skip (.exit id))) (.seq (.block idb BODY) Rinc)))).wp P Q ⟨T, []⟩ w := by
  refine wp_block ?_
  refine wp_loop (fun a w' => w' = w ∧ ∃ k T, k ≤ n ∧ a = ⟨T, []⟩ ∧ I k T) (fun a _ => n - (intOf (a.eval (.tmp i))).toNat) ⟨rfl, 0, T, Nat.zero_le _, rfl, h0⟩ ?_
  rintro _ _ ⟨rfl, k, T1, hk, rfl, hI⟩
  refine wp_seq_k fun K hK => ?_
  refine wp_seq_k fun K2 hK2 => ?_
  refine hc k T1 hk hI K2 _ fun T2 hI2 ht => hK2 _ _ ?_
  refine wp_cond_split (t := decide (k < n)) ht (fun hlt => wp_skip (hK _ _ ?_)) (fun hge => wp_exit ?_)
  · have hlt' : k < n := of_decide_eq_true hlt
    refine wp_seq_k fun K3 hK3 => ?_
    refine wp_block (hb k T2 hlt' hI2 _ (fun T3 hI3 => hK3 _ _ ?_) (fun a w h => h))
    refine hinc k T3 hlt' hI3 _ fun T4 hI4 => ?_
    refine ⟨⟨rfl, k + 1, T4, hlt', rfl, hI4⟩, ?_⟩
    have e1 : (⟨T4, []⟩ : Act).eval (.tmp i) = .int .i64 ((k + 1 : Nat) : Int) := hi _ _ hI4
    have e2 : (⟨T1, []⟩ : Act).eval (.tmp i) = .int .i64 (k : Int) := hi _ _ hI
    rw [e1, e2]
    simp [intOf]
    omega
  · have : ¬ k < n := of_decide_eq_false hge
    obtain rfl : k = n := by omega
    show Exit.inBlock id Q (.exit id) ⟨T2, []⟩ _
    simp only [Exit.inBlock, if_true]
    exact hx T2 hI2
end Go.Proofs.Qxb6608981aMods.Abs
