/-
  A REGION THAT DRAWS ITS ORDER, WHOSE LAST OPERATION (a store, a copy) WAITS FOR ALL THE OTHERS: the others, each quiet in a class of worlds, are walked once, in the order of the text; then the store is run.
  HOW: the store is put out of the way (a copy that does nothing stands in its place), the library's theorem on quiet regions serves for that region, and what it gives is carried over.
-/
import Derived.BigQuiet
namespace Go.Proofs.Qxb6608981aMods.Last
open Go

section
variable {P : Program} {C : World → Prop}

/-- The same place in the order, nothing done. -/
def idle (z : Oper) : Oper := { z with op := .assign (.const undef), guard := none, dst := none }
/-- Every guard asks an operation ahead of number n. -/
def guardB (n : Nat) (o : Oper) : Bool := match o.guard with
  | none => true
  | some (j, _) => decide (j < n)
/-- Every edge goes back. -/
def backB (ops : Array Oper) : Bool := (List.range ops.size).all fun i => ((ops[i]?).map fun o => o.after.all fun e => decide (e.on < i)).getD true
/-- Operation j waits for operation i. -/
def askB (ops : Array Oper) (j i : Nat) : Bool := ((ops[j]?).map fun o => o.after.any fun e => Region.binds .any e && e.on == i).getD false
/-- Each one ahead of n is waited for by one behind it, up to n: so n comes last. -/
def waitsB (ops : Array Oper) (n : Nat) : Bool := (List.range n).all fun i => (List.range (n + 1)).any fun j => decide (i < j) && askB ops j i

theorem back_spec {ops : Array Oper} (h : backB ops = true) {i : Nat} {o : Oper} (ho : ops[i]? = some o) : ∀ e ∈ o.after, e.on < i := by
  have hi : i < ops.size := (Array.getElem?_eq_some_iff.1 ho).1
  have h1 := List.all_eq_true.1 h i (List.mem_range.2 hi)
  simp only [ho, Option.map_some, Option.getD_some] at h1
  intro e he
  exact of_decide_eq_true (Array.all_eq_true_iff_forall_mem.1 h1 e he)

theorem ask_spec {ops : Array Oper} {i j : Nat} (h : askB ops j i = true) : ∃ o, ops[j]? = some o ∧ ∃ e ∈ o.after, Region.binds .any e = true ∧ e.on = i := by
  unfold askB at h
  cases ho : ops[j]? with
  | none => simp [ho] at h
  | some o =>
    rw [ho] at h
    simp only [Option.map_some, Option.getD_some] at h
    obtain ⟨e, he, hb⟩ := Array.any_eq_true'.1 h
    simp only [Bool.and_eq_true, beq_iff_eq] at hb
    exact ⟨o, rfl, e, he, hb.1, hb.2⟩
theorem none_yet (m j : Nat) : (Array.replicate m false).getD j false = false := by
  rcases Nat.lt_or_ge j m with h | h
  · simp [h]
  · simp [h]
/-- What has come up has all that it waits for behind it. -/
def Shut (ops : Array Oper) (listed : Array Bool) : Prop := ∀ j o, ops[j]? = some o → listed.getD j false = true → ∀ e ∈ o.after, Region.binds .any e = true → listed.getD e.on false = true
theorem Shut.next {ops : Array Oper} {listed : Array Bool} {i : Nat} (h : Shut ops listed) (hi : i ∈ Region.ready .any ops listed) : Shut ops (listed.setIfInBounds i true) := by
  obtain ⟨_, oi, hoi, hall⟩ := mem_ready.1 hi
  intro j o ho hl e he hb
  by_cases hij : i = j
  · subst hij
    rw [ho] at hoi
    obtain rfl := Option.some.inj hoi
    exact getD_set_true (hall e he hb)
  · rw [getD_set_ne false hij] at hl
    exact getD_set_true (h j o ho hl e he hb)
/-- Where n may come up all the others have. -/
theorem waits_spec {ops : Array Oper} {n : Nat} (h : waitsB ops n = true) {listed : Array Bool} (hsh : Shut ops listed) {o : Oper} (ho : ops[n]? = some o) (hall : ∀ e ∈ o.after, Region.binds .any e = true → listed.getD e.on false = true) :
    ∀ d i, n - i = d → i < n → listed.getD i false = true := by
  intro d
  induction d using Nat.strongRecOn with
  | _ d ih =>
    intro i hd hi
    have h1 := List.all_eq_true.1 h i (List.mem_range.2 hi)
    obtain ⟨j, hj, hj2⟩ := List.any_eq_true.1 h1
    simp only [Bool.and_eq_true, decide_eq_true_eq] at hj2
    obtain ⟨oj, hoj, e, he, hb, hon⟩ := ask_spec hj2.2
    have hjn := List.mem_range.1 hj
    rw [← hon]
    by_cases hjt : j = n
    · subst hjt
      rw [ho] at hoj
      obtain rfl := Option.some.inj hoj
      exact hall e he hb
    · exact hsh j oj hoj (ih (n - j) (by omega) j rfl (by omega)) e he hb

theorem unlisted {listed : Array Bool} {i : Nat} (hi : i < listed.size) (h : ¬ listed.getD i false = true) : listed.getD i true = false := by
  simp [hi] at h ⊢
  exact h

/-- Where one is left, one may come up. -/
theorem alive {ops : Array Oper} (hb : backB ops = true) {listed : Array Bool} (hsz : listed.size = ops.size) : ∀ i, i < ops.size → listed.getD i true = false → ∃ j, j ∈ Region.ready .any ops listed := by
  intro i
  induction i using Nat.strongRecOn with
  | _ i ih =>
    intro hi hun
    have ho : ops[i]? = some ops[i] := Array.getElem?_eq_getElem hi
    by_cases hall : ∀ e ∈ ops[i].after, Region.binds .any e = true → listed.getD e.on false = true
    · exact ⟨i, mem_ready.2 ⟨hun, _, ho, hall⟩⟩
    · obtain ⟨e, he⟩ := Classical.not_forall.1 hall
      obtain ⟨h1, h2⟩ := Classical.not_imp.1 he
      obtain ⟨_, h3⟩ := Classical.not_imp.1 h2
      have hlt := back_spec hb ho e h1
      exact ih e.on hlt (by omega) (unlisted (by omega) h3)

theorem oper_mono {o : Oper} {a : Act} {w : World} {K K' : Act → World → Prop} {Q Q' : Exit → Act → World → Prop} (h : ∀ a w, K a w → K' a w) (hq : ∀ e a w, e ≠ .normal → ¬ Q e a w)
    (hh : o.wp P a w K Q) : o.wp P a w K' Q' := by
  unfold Oper.wp at *
  generalize (execOp a.eval o).run P w = r at *
  cases r with
  | ok n w' =>
    cases n <;> simp only [Oper.upon] at hh ⊢
    case value => exact h _ _ hh
    case skip => exact h _ _ hh
    case defer => exact h _ _ hh
    case row => exact Rows.mono hh fun _ _ he => h _ _ he
    case enter =>
      refine Calls.mono hh fun e w'' he => ?_
      cases e with
      | returned v => exact h _ _ he
      | panicked c => exact absurd he (hq _ _ _ (by simp))
      | outgrown => obtain ⟨a, w, hl⟩ := he; exact absurd hl (hq _ _ _ (by simp))
  | halt x w' =>
    cases x <;> simp only [Oper.upon] at hh ⊢
    case panic => exact absurd hh (hq _ _ _ (by simp))

section
variable {l : List Oper} {z : Oper}

theorem at_lt {i : Nat} (h : i < l.length) (y : Oper) : (l ++ [z]).toArray[i]? = (l ++ [y]).toArray[i]? := by simp [h, List.getElem?_append_left]
theorem at_last (y : Oper) : (l ++ [y]).toArray[l.length]? = some y := by simp

theorem ready_iff {listed : Array Bool} (j : Nat) : j ∈ Region.ready .any (l ++ [z]).toArray listed ↔ j ∈ Region.ready .any (l ++ [idle z]).toArray listed := by
  rw [mem_ready, mem_ready]
  rcases Nat.lt_trichotomy j l.length with h | h | h
  · rw [at_lt h (idle z)]
  · subst h
    rw [at_last, at_last]
    simp [idle]
  · have e : ∀ y : Oper, (l ++ [y]).toArray[j]? = none := fun y => by simp; omega
    rw [e, e]

theorem yielded_eq (tmps : Array Value) {j : Nat} (h : j < l.length) : yielded (l ++ [z]).toArray tmps j = yielded (l ++ [idle z]).toArray tmps j := by
  unfold yielded
  rw [at_lt h (idle z)]
theorem wanted_eq (tmps : Array Value) {o : Oper} (h : guardB l.length o = true) : Region.wanted o (yielded (l ++ [z]).toArray tmps) = Region.wanted o (yielded (l ++ [idle z]).toArray tmps) := by
  unfold Region.wanted
  unfold guardB at h
  cases hg : o.guard with
  | none => rfl
  | some q =>
    obtain ⟨j, want⟩ := q
    rw [hg] at h
    simp only at h ⊢
    rw [yielded_eq tmps (of_decide_eq_true h)]

theorem none_left {listed : Array Bool} (hall : ∀ i, i < l.length → listed.getD i false = true) (hsz : listed.size = l.length + 1) : Region.ready .any (l ++ [z]).toArray (listed.setIfInBounds l.length true) = [] := by
  rw [List.eq_nil_iff_forall_not_mem]
  intro j hj
  obtain ⟨h0, o, ho, _⟩ := mem_ready.1 hj
  have hlt : j < l.length + 1 := by simpa using (Array.getElem?_eq_some_iff.1 ho).1
  by_cases e : j = l.length
  · subst e
    simp [hsz] at h0
  · rw [getD_set_ne true (Ne.symm e)] at h0
    have h1 := hall j (by omega)
    have hj' : j < listed.size := by omega
    simp [hj'] at h0 h1
    rw [h0] at h1
    cases h1

theorem done {Q : Exit → Act → World → Prop} {md : Region.Mode} {ops : Array Oper} {listed : Array Bool} {a : Act} {w : World} (hr : Region.ready md ops listed = []) (h : Q .normal a w) : ∀ f, wpAny P md ops Q f listed a w
  | 0 => ⟨hr, h⟩
  | _ + 1 => ⟨fun _ => h, fun i hi => by rw [hr] at hi; cases hi⟩
theorem undone {Q : Exit → Act → World → Prop} {md : Region.Mode} {ops : Array Oper} {listed : Array Bool} {a : Act} {w : World} (hr : Region.ready md ops listed = []) : ∀ {f : Nat}, wpAny P md ops Q f listed a w → Q .normal a w
  | 0, h => h.2
  | _ + 1, h => h.1 hr

theorem carry {Q Q' : Exit → Act → World → Prop} (hgs : l.all (guardB l.length) = true) (hb : backB (l ++ [z]).toArray = true) (hwt : waitsB (l ++ [z]).toArray l.length = true)
    (hR : ∀ a w, Q' .normal a w → wpOp P (l ++ [z]).toArray Q l.length (fun a w => Q .normal a w) a w) (hq : ∀ e a w, e ≠ .normal → ¬ Q' e a w) :
    ∀ (f : Nat) (listed : Array Bool) (a : Act) (w : World), listed.size = l.length + 1 → Shut (l ++ [z]).toArray listed → listed.getD l.length true = false → wpAny P .any (l ++ [idle z]).toArray Q' f listed a w → wpAny P .any (l ++ [z]).toArray Q f listed a w := by
  intro f
  induction f with
  | zero =>
    intro listed a w hsz _ hun h
    obtain ⟨j, hj⟩ := alive hb (by simpa using hsz) l.length (by simp) hun
    have := (ready_iff j).1 hj
    rw [h.1] at this
    cases this
  | succ f ih =>
    intro listed a w hsz hsh hun h
    refine ⟨fun hr => ?_, fun i hi => ?_⟩
    · obtain ⟨j, hj⟩ := alive hb (by simpa using hsz) l.length (by simp) hun
      rw [hr] at hj
      cases hj
    · have h1 := h.2 i ((ready_iff i).1 hi)
      obtain ⟨hun_i, o, ho, hall⟩ := mem_ready.1 hi
      have hlt : i < l.length + 1 := by simpa using (Array.getElem?_eq_some_iff.1 ho).1
      by_cases e : i = l.length
      · subst e
        have hz : o = z := by rw [at_last] at ho; exact (Option.some.inj ho).symm
        subst hz
        have hlisted : ∀ j, j < l.length → listed.getD j false = true := fun j hj => waits_spec hwt hsh ho hall _ j rfl hj
        have hnil := none_left (l := l) (z := o) hlisted hsz
        have hnil' := none_left (l := l) (z := idle o) hlisted hsz
        unfold wpOp at h1
        rw [at_last] at h1
        have hwa : Region.wanted (idle o) (yielded (l ++ [idle o]).toArray a.tmps) = true := rfl
        simp only [hwa, if_true] at h1
        rcases h1 with h1 | ⟨_, a', w', h1⟩
        · have hrun := BigFrame.run_assign (P := P) (ρ := a.eval) (o := idle o) (.const undef) rfl w
          unfold Oper.wp at h1
          rw [hrun] at h1
          have h2 : wpAny P .any (l ++ [idle o]).toArray Q' f (listed.setIfInBounds l.length true) (a.put (idle o).dst (a.eval (.const undef))) w := h1
          have e2 : a.put (idle o).dst (a.eval (.const undef)) = a := rfl
          rw [e2] at h2
          exact wpOp_mono (fun a' w' h3 => done hnil h3 f) (hR a w (undone hnil' h2))
        · exact absurd h1 (hq _ _ _ (by simp))
      · have hi' : i < l.length := by omega
        have ih' := fun a' w' => ih (listed.setIfInBounds i true) a' w' (by simpa using hsz) (hsh.next hi) (by rw [getD_set_ne true e]; exact hun)
        unfold wpOp at h1 ⊢
        rw [← at_lt hi' (idle z), ho] at h1
        rw [ho]
        simp only at h1 ⊢
        have hol : o ∈ l := by
          have : (l ++ [z]).toArray[i]? = l[i]? := by simp [hi', List.getElem?_append_left]
          rw [this] at ho
          exact List.mem_of_getElem? ho
        rw [← wanted_eq _ (List.all_eq_true.1 hgs o hol)] at h1
        split
        · rename_i hw
          simp only [hw, if_true] at h1
          rcases h1 with h1 | ⟨_, a', w', h1⟩
          · exact .inl (oper_mono ih' hq h1)
          · exact absurd h1 (hq _ _ _ (by simp))
        · rename_i hw
          simp only [hw] at h1
          exact ih' _ _ h1

theorem quiet_append {ops : Array Oper} {Q : Act → Prop} : ∀ (l1 l2 : List Oper) (a : Act), wpQuiet P ops C (wpQuiet P ops C Q l2) l1 a → wpQuiet P ops C Q (l1 ++ l2) a
  | [], _, _, h => h
  | o :: l1, l2, a, h => by
    simp only [List.cons_append, wpQuiet] at h ⊢
    split
    · rename_i hw
      simp only [hw, if_true] at h
      exact Oper.quiet_mono (fun a' h' => quiet_append l1 l2 a' h') h
    · rename_i hw
      simp only [hw] at h
      exact quiet_append l1 l2 _ h

theorem quiet_post {ops : Array Oper} {Q Q' : Act → Prop} (hQ : ∀ a, Q a → Q' a) : ∀ (k : List Oper) (a : Act), wpQuiet P ops C Q k a → wpQuiet P ops C Q' k a
  | [], _, h => hQ _ h
  | o :: k, a, h => by
    simp only [wpQuiet] at h ⊢
    split
    · rename_i hw
      simp only [hw, if_true] at h
      exact Oper.quiet_mono (fun a' h' => quiet_post hQ k a' h') h
    · rename_i hw
      simp only [hw] at h
      exact quiet_post hQ k _ h

theorem quiet_turn {Q : Act → Prop} : ∀ (k : List Oper) (a : Act), (∀ o ∈ k, guardB l.length o = true) → wpQuiet P (l ++ [z]).toArray C Q k a → wpQuiet P (l ++ [idle z]).toArray C Q k a
  | [], _, _, h => h
  | o :: k, a, hg, h => by
    simp only [wpQuiet] at h ⊢
    rw [← wanted_eq _ (hg o (by simp))]
    split
    · rename_i hw
      simp only [hw, if_true] at h
      exact Oper.quiet_mono (fun a' h' => quiet_turn k a' (fun o' ho' => hg o' (by simp [ho'])) h') h
    · rename_i hw
      simp only [hw] at h
      exact quiet_turn k _ (fun o' ho' => hg o' (by simp [ho'])) h

theorem quiet_idle {ops : Array Oper} {Q : Act → Prop} {a : Act} (h : Q a) : wpQuiet P ops C Q [idle z] a := by
  refine BigFrame.wpQuiet_want rfl fun K hK => BigFrame.quiet_assign (.const undef) rfl ?_
  refine hK _ ?_
  have e2 : a.put (idle z).dst (a.eval (.const undef)) = a := rfl
  rw [e2]
  exact h

/-- What is asked behind the head: that the last operation runs; no other way out. -/
def behind (P : Program) (ops : Array Oper) (z : Oper) (Q : Exit → Act → World → Prop) : Exit → Act → World → Prop
  | .normal, a, w => wpList P ops Q [z] a w
  | _, _, _ => False

/-- THE THEOREM. -/
theorem wp_region_last {id : Nat} {Q : Exit → Act → World → Prop} {a : Act} {w : World} (hm : P.follows .mixedOrders = true) (hgs : l.all (guardB l.length) = true)
    (hB : Region.lexB .any (l ++ [idle z]).toArray = true) (hb : backB (l ++ [z]).toArray = true) (hwt : waitsB (l ++ [z]).toArray l.length = true) (hC : C { w with drawn := w.drawn + 1 })
    (h : wpQuiet P (l ++ [z]).toArray C (fun a' => ∀ w', C w' → wpList P (l ++ [z]).toArray Q [z] a' w') l a) : (Code.region id (l ++ [z]).toArray true).wp P Q a w := by
  simp only [Region.lexB, Bool.and_eq_true] at hB
  refine wp_region_any hm ?_
  have hsz : (l ++ [z]).toArray.size = (l ++ [idle z]).toArray.size := by simp
  have h1 : wpQuiet P (l ++ [idle z]).toArray C (fun a' => ∀ w', C w' → wpList P (l ++ [z]).toArray Q [z] a' w') (l ++ [idle z]) a :=
    quiet_append l [idle z] a (quiet_post (fun a' h' => quiet_idle h') l a (quiet_turn l a (List.all_eq_true.1 hgs) h))
  have h2 := wpAnyQ_lex (C := C) (md := .any) hB.1 (l ++ [idle z]) 0 (Array.replicate (l ++ [idle z]).toArray.size false) a (by simp) (by simpa using hB.2) h1
  have h3 := wpAny_of_quiet (Q' := behind P (l ++ [z]).toArray z Q) (fun a' w' hw' hQ' => hQ' w' hw') _ _ a _ hC h2
  have h4 := carry (Q := Q) hgs hb hwt (fun a' w' h' => by
    have h5 : wpList P (l ++ [z]).toArray Q [z] a' w' := h'
    unfold wpOp
    rw [at_last]
    exact h5) (fun e a' w' he h' => by
    cases e <;> first | exact he rfl | exact h') _ _ _ _ (by simp) (fun j o _ hl => by rw [none_yet] at hl; cases hl) (by simp) h3
  simpa using h4

/-- The same for a region whose operations are written out. -/
theorem wp_region_last_lit {id : Nat} {Q : Exit → Act → World → Prop} {a : Act} {w : World} {k : List Oper} {y : Oper} (C : World → Prop) (hk : k.getLast? = some y) (hm : P.follows .mixedOrders = true) (hgs : k.dropLast.all (guardB k.dropLast.length) = true)
    (hB : Region.lexB .any (k.dropLast ++ [idle y]).toArray = true) (hb : backB k.toArray = true) (hwt : waitsB k.toArray k.dropLast.length = true) (hC : C { w with drawn := w.drawn + 1 })
    (h : wpQuiet P k.toArray C (fun a' => ∀ w', C w' → wpList P k.toArray Q [y] a' w') k.dropLast a) : (Code.region id k.toArray true).wp P Q a w := by
  have e : k.dropLast ++ [y] = k := by
    cases k with
    | nil => simp at hk
    | cons o k =>
      rw [List.getLast?_eq_some_getLast (by simp)] at hk
      rw [← Option.some.inj hk]
      exact List.dropLast_concat_getLast (by simp)
  have := wp_region_last (id := id) (Q := Q) (a := a) (w := w) (l := k.dropLast) (z := y) (P := P) (C := C) hm hgs hB (by rw [e]; exact hb) (by rw [e]; exact hwt) hC (by rw [e]; exact h)
  rw [e] at this
  exact this
end
end
end Go.Proofs.Qxb6608981aMods.Last
