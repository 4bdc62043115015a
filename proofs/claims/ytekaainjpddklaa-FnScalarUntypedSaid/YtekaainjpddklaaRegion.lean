/-
  A drawn region whose loads may be taken first, where the cells that they load are written only at the region's end: the condition is asked behind the head's operations alone, the tail runs in its forced order.
-/
import Derived.OrdersHeld
import Derived.StillTail
namespace Go.Proofs.Ytekaainjpddklaa

section
variable {P : Program} {ops : Array Oper} {Q : Exit → Act → World → Prop} {md : Region.Mode} {S : World → Prop} {n : Nat} {L : Array Bool → Act → World → Prop}

/-- f operations of the head are still to come up, in any order; S behind each of them; then L -/
def wpHead (P : Program) (md : Region.Mode) (ops : Array Oper) (Q : Exit → Act → World → Prop) (S : World → Prop) (n : Nat) (L : Array Bool → Act → World → Prop) : Nat → Array Bool → Act → World → Prop
  | 0, listed, a, w => L listed a w
  | f + 1, listed, a, w => Region.ready md ops listed ≠ [] ∧ ∀ i ∈ Region.ready md ops listed, i < n ∧ wpOp P ops Q i (fun a' w' => S w' ∧ wpHead P md ops Q S n L f (listed.setIfInBounds i true) a' w') a w

theorem wpAny_of_wpHead {g : Nat} (hL : ∀ listed a w, L listed a w → wpAny P md ops Q g listed a w) :
    ∀ (f : Nat) (listed : Array Bool) (a : Act) (w : World), wpHead P md ops Q S n L f listed a w → wpAny P md ops Q (f + g) listed a w
  | 0, listed, a, w, h => by rw [Nat.zero_add]; exact hL _ _ _ h
  | f + 1, listed, a, w, h => by
    rw [show f + 1 + g = (f + g) + 1 by omega]
    exact ⟨fun h0 => absurd h0 h.1, fun i hi => wpOp_mono (fun a' w' h' => wpAny_of_wpHead hL f _ a' w' h'.2) (h.2 i hi).2⟩

theorem wpHead_first {i : Nat} {oi : Oper} {v : Value} (hi : ops[i]? = some oi) (hsel : ∀ (j : Nat) (o : Oper) cs b, ops[j]? = some o → o.op ≠ .select cs b)
    (hQ : ∀ c a w, Q (.panic c) (a.put oi.dst v) w → Q (.panic c) a w)
    (hs : Region.sinkB md ops n = true) (hc : Region.chainB md ops n = true) (hn : n < ops.size) (hin : i < n)
    (hdone : ∀ listed a w, L listed a w → ∀ j ∈ Region.ready md ops listed, n ≤ j) :
    ∀ (f : Nat) (listed : Array Bool) (a : Act) (w : World), HeadInv md ops n listed →
      (∀ j oj, ops[j]? = some oj → j ≠ i → listed.getD j true = false → (∀ e ∈ oj.after, Region.binds md e = true → e.on ≠ i) → oi.apart ops oj = true) →
      i ∈ Region.ready md ops listed → YieldsIf P ops S oi v a → S w →
      wpHead P md ops Q S n L f (listed.setIfInBounds i true) (a.put oi.dst v) w → wpHead P md ops Q S n L (f + 1) listed a w := by
  intro f
  induction f with
  | zero =>
    intro listed a w inv _ hr hy hS H
    have hun := (mem_ready.1 hr).1
    refine ⟨fun h => (by rw [h] at hr; cases hr), fun j hj => ?_⟩
    have hjn : j < n := by
      rcases Nat.lt_or_ge j n with h | h
      · exact h
      · exact absurd hj (tail_waits hs hc hn inv _ i rfl hin hun j h)
    refine ⟨hjn, ?_⟩
    by_cases hji : j = i
    · subst hji; exact hy.wpOp hi hS ⟨hS, H⟩
    · have := hdone _ _ _ H j (ready_mono hj hji)
      omega
  | succ f ih =>
    intro listed a w inv hfree hr hy hS H
    have hun := (mem_ready.1 hr).1
    refine ⟨fun h => (by rw [h] at hr; cases hr), fun j hj => ?_⟩
    have hjn : j < n := by
      rcases Nat.lt_or_ge j n with h | h
      · exact h
      · exact absurd hj (tail_waits hs hc hn inv _ i rfl hin hun j h)
    refine ⟨hjn, ?_⟩
    by_cases hji : j = i
    · subst hji; exact hy.wpOp hi hS ⟨hS, H⟩
    · have h1 := (H.2 j (ready_mono hj hji)).2
      obtain ⟨hjun, oj, hoj, hall⟩ := mem_ready.1 hj
      have hnot : ∀ e ∈ oj.after, Region.binds md e = true → e.on ≠ i := fun e he hb heq => by
        have h1 := hall e he hb
        rw [heq, getD_both hun] at h1
        cases h1
      have h2 := wpOp_putIf hoj (hfree j oj hoj hji hjun hnot) (fun cs b => hsel i oi cs b hi) (fun cs b => hsel j oj cs b hoj) hQ hy h1
      have hfree' : ∀ k ok, ops[k]? = some ok → k ≠ i → (listed.setIfInBounds j true).getD k true = false →
          (∀ e ∈ ok.after, Region.binds md e = true → e.on ≠ i) → oi.apart ops ok = true := fun k ok hk hki hun hno => by
        refine hfree k ok hk hki ?_ hno
        by_cases hjk : j = k
        · subst hjk; exact hjun
        · rw [getD_set_ne true hjk] at hun; exact hun
      refine wpOp_mono (fun a' w' h3 => ⟨h3.2.1, ih (listed.setIfInBounds j true) a' w' (inv.set hj hjn) hfree' (ready_mono hr (Ne.symm hji)) h3.1 h3.2.1 ?_⟩) h2
      rw [Array.setIfInBounds_comm _ _ hji]
      exact h3.2.2

/-- what a walk shows in the head -/
def HT (P : Program) (l : List Oper) (Q : Exit → Act → World → Prop) (S : World → Prop) (n f : Nat) (listed : Array Bool) (a : Act) (w : World) : Prop :=
  HeadInv .any l.toArray n listed → wpHead P .any l.toArray Q S n (fun listed' a' w' => Region.seqB .any l.toArray (l.toArray.size - n) n listed' = true ∧ wpList P l.toArray Q (l.drop n) a' w') f listed a w

variable {l : List Oper}
def headB (l : List Oper) (n : Nat) : Bool := Region.noSelect l.toArray && decide (n < l.toArray.size) && Region.sinkB .any l.toArray n && Region.chainB .any l.toArray n
/-- what may be taken first: the bounds of number i at this state -/
def takeB (l : List Oper) (n i : Nat) (listed : Array Bool) : Bool := headB l n && decide (i < n) && Region.free .any l.toArray listed i && (Region.ready .any l.toArray listed).contains i

theorem at_of_drop {i : Nat} {oi : Oper} {r : List Oper} (h : l.drop i = oi :: r) : l.toArray[i]? = some oi := by
  have := congrArg (·[0]?) h
  simpa [List.getElem?_drop] using this

theorem HT.take (i : Nat) {oi : Oper} {r : List Oper} {v : Value} {f : Nat} {listed : Array Bool} {a : Act} {w : World} (hd : l.drop i = oi :: r) (hB : takeB l n i listed = true)
    (hQ : ∀ c a w, Q (.panic c) (a.put oi.dst v) w → Q (.panic c) a w) (hy : YieldsIf P l.toArray S oi v a) (hS : S w)
    (h : HT P l Q S n f (listed.setIfInBounds i true) (a.put oi.dst v) w) : HT P l Q S n (f + 1) listed a w := by
  intro inv
  have hi := at_of_drop hd
  simp only [takeB, headB, Bool.and_eq_true, decide_eq_true_eq] at hB
  obtain ⟨⟨⟨⟨⟨⟨hsel, hn⟩, hs⟩, hc⟩, hin⟩, hf⟩, hr⟩ := hB
  have hr' : i ∈ Region.ready .any l.toArray listed := by simpa using hr
  exact wpHead_first hi (Region.noSelect_spec hsel) hQ hs hc hn hin (fun listed' a' w' hL => seqB_ready hL.1) f listed a w inv (Region.free_spec hi hf) hr' hy hS (h (inv.set hr' hin))

/-- kept from the walk's simplifier -/
def Held (p : Prop) : Prop := p
theorem Held.out {p : Prop} (h : Held p) : p := h

/-- an operation that is carried out: the only one that may come up now -/
theorem HT.one (i : Nat) {oi : Oper} {r : List Oper} {f : Nat} {listed : Array Bool} {a : Act} {w : World} (hd : l.drop i = oi :: r) (hr : (Region.ready .any l.toArray listed == [i] && decide (i < n)) = true)
    (hw : Region.wanted oi (yielded l.toArray a.tmps) = true)
    (h : ∀ K : Act → World → Prop, Held (∀ a' w', S w' → HT P l Q S n f (listed.setIfInBounds i true) a' w' → K a' w') → oi.wp P a w K Q) : HT P l Q S n (f + 1) listed a w := by
  intro inv
  replace h : wpOp P l.toArray Q i (fun a' w' => S w' ∧ HT P l Q S n f (listed.setIfInBounds i true) a' w') a w := by
    unfold wpOp
    simp only [at_of_drop hd, hw, if_true]
    exact .inl (h _ fun a' w' h1 h2 => ⟨h1, h2⟩)
  simp only [Bool.and_eq_true, beq_iff_eq, decide_eq_true_eq] at hr
  refine ⟨by rw [hr.1]; simp, fun j hj => ?_⟩
  have hji : j = i := by rw [hr.1] at hj; simpa using hj
  subst hji
  exact ⟨hr.2, wpOp_mono (fun a' w' h' => ⟨h'.1, h'.2 (inv.set hj hr.2)⟩) h⟩

theorem HT.done {listed : Array Bool} {a : Act} {w : World} (hB : Region.seqB .any l.toArray (l.toArray.size - n) n listed = true) (h : wpList P l.toArray Q (l.drop n) a w) : HT P l Q S n 0 listed a w :=
  fun _ => ⟨hB, h⟩

/-- THE BEGINNING -/
theorem wp_region_head (n : Nat) (S : World → Prop) {id : Nat} {a : Act} {w : World} (hm : P.follows .mixedOrders = true) (hB : headB l n = true)
    (h : HT P l Q S n n (Array.replicate l.toArray.size false) a { w with drawn := w.drawn + 1 }) : (Code.region id l.toArray true).wp P Q a w := by
  simp only [headB, Bool.and_eq_true, decide_eq_true_eq] at hB
  obtain ⟨⟨⟨hsel, hn⟩, hs⟩, hc⟩ := hB
  have inv0 : HeadInv .any l.toArray n (Array.replicate l.toArray.size false) :=
    ⟨by simp, fun j oj _ hl => (by rw [getD_replicate_false] at hl; cases hl), fun t _ ht => getD_in (by simpa using ht) (getD_replicate_false _ _)⟩
  have hdl : (l.drop n).length = l.toArray.size - n := by simp
  refine wp_region_any hm ?_
  have := wpAny_of_wpHead (Q := Q) (g := l.toArray.size - n) (fun listed a' w' hL => by
    have := wpAny_of_seq (md := .any) (Q' := Q) (l.drop n) n listed a' w' (fun j => by simp [List.getElem?_drop]) (by rw [hdl]; exact hL.1) hL.2
    rwa [hdl] at this) _ _ _ _ (h inv0)
  rwa [show n + (l.toArray.size - n) = l.toArray.size by have : n < l.toArray.size := hn; omega] at this

end
end Go.Proofs.Ytekaainjpddklaa
