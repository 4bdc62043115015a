/-
  Several texts in one: Field, Head.
-/
import Derived.Test.YtajeghkjppkhcaaGreatLaw
set_option linter.unusedVariables false
set_option linter.unusedSimpArgs false
/-!
  The reference's Field of a plain map (two results); a region in which two operations may come up.
-/

namespace Go.Proofs.YtajeghkjppkhcaaGreat
open Go.RowKit
attribute [local go_sem] run_store_float

section
variable {P : Program} {l : List Oper} {Q : Exit → Act → World → Prop} {S : World → Prop} {n : Nat}
/-- two operations may come up now: either is carried out -/
theorem HT.two (i j : Nat) {oi oj : Oper} {ri rj : List Oper} {f : Nat} {listed : Array Bool} {a : Act} {w : World} (hdi : l.drop i = oi :: ri) (hdj : l.drop j = oj :: rj)
    (hr : (Region.ready .any l.toArray listed == [i, j] && decide (i < n) && decide (j < n)) = true)
    (hwi : Region.wanted oi (yielded l.toArray a.tmps) = true) (hwj : Region.wanted oj (yielded l.toArray a.tmps) = true)
    (hi : ∀ K : Act → World → Prop, Held (∀ a' w', S w' → HT P l Q S n f (listed.setIfInBounds i true) a' w' → K a' w') → oi.wp P a w K Q)
    (hj : ∀ K : Act → World → Prop, Held (∀ a' w', S w' → HT P l Q S n f (listed.setIfInBounds j true) a' w' → K a' w') → oj.wp P a w K Q) : HT P l Q S n (f + 1) listed a w := by
  intro inv
  replace hi : wpOp P l.toArray Q i (fun a' w' => S w' ∧ HT P l Q S n f (listed.setIfInBounds i true) a' w') a w := by
    unfold wpOp
    simp only [at_of_drop hdi, hwi, if_true]
    exact .inl (hi _ fun a' w' h1 h2 => ⟨h1, h2⟩)
  replace hj : wpOp P l.toArray Q j (fun a' w' => S w' ∧ HT P l Q S n f (listed.setIfInBounds j true) a' w') a w := by
    unfold wpOp
    simp only [at_of_drop hdj, hwj, if_true]
    exact .inl (hj _ fun a' w' h1 h2 => ⟨h1, h2⟩)
  simp only [Bool.and_eq_true, beq_iff_eq, decide_eq_true_eq] at hr
  obtain ⟨⟨hr, hin⟩, hjn⟩ := hr
  refine ⟨by rw [hr]; simp, fun m hm => ?_⟩
  have hmij : m = i ∨ m = j := by rw [hr] at hm; simpa using hm
  rcases hmij with rfl | rfl
  · exact ⟨hin, wpOp_mono (fun a' w' h' => ⟨h'.1, h'.2 (inv.set hm hin)⟩) hi⟩
  · exact ⟨hjn, wpOp_mono (fun a' w' h' => ⟨h'.1, h'.2 (inv.set hm hjn)⟩) hj⟩
end

end Go.Proofs.YtajeghkjppkhcaaGreat

/-!
  A region's head whose operations may come up in any order, by an invariant over what is listed.
-/

namespace Go.Proofs.YtajeghkjppkhcaaGreat
open Go.RowKit

section
variable {P : Program} {l : List Oper} {Q : Exit → Act → World → Prop} {S : World → Prop} {n : Nat}

/-- how many of the head are still to come up -/
def leftN (listed : Array Bool) : Nat → Nat
  | 0 => 0
  | n + 1 => leftN listed n + (if listed.getD n true = false then 1 else 0)

theorem getD_set_self (listed : Array Bool) (i : Nat) : (listed.setIfInBounds i true).getD i true = true := by
  rcases Nat.lt_or_ge i listed.size with h | h
  · simp [Array.getD, h]
  · simp [Array.getD, Nat.not_lt.2 h]
theorem leftN_set (listed : Array Bool) {i : Nat} (hun : listed.getD i true = false) : ∀ n, leftN (listed.setIfInBounds i true) n + (if i < n then 1 else 0) = leftN listed n
  | 0 => by simp [leftN]
  | n + 1 => by
    have ih := leftN_set listed hun n
    rw [leftN, leftN]
    by_cases hin : i = n
    · subst hin
      rw [getD_set_self, hun]
      simp at ih ⊢
      exact ih
    · rw [getD_set_ne true hin]
      by_cases h1 : i < n
      · rw [if_pos h1] at ih
        rw [if_pos (show i < n + 1 by omega)]
        omega
      · rw [if_neg h1] at ih
        rw [if_neg (show ¬ i < n + 1 by omega)]
        omega
theorem leftN_zero {listed : Array Bool} : ∀ {n : Nat}, leftN listed n = 0 → ∀ i, i < n → listed.getD i true = true
  | 0, _, i, hi => by omega
  | n + 1, h, i, hi => by
    rw [leftN] at h
    by_cases hin : i = n
    · subst hin
      cases hg : listed.getD i true
      · rw [hg] at h
        simp at h
      · rfl
    · exact leftN_zero (n := n) (by omega) i (by omega)
theorem leftN_pos {listed : Array Bool} : ∀ {n : Nat}, leftN listed n ≠ 0 → ∃ i, i < n ∧ listed.getD i true = false
  | 0, h => absurd rfl h
  | n + 1, h => by
    cases hg : listed.getD n true
    · exact ⟨n, by omega, hg⟩
    · rw [leftN, hg] at h
      obtain ⟨i, h1, h2⟩ := leftN_pos (n := n) (by simpa using h)
      exact ⟨i, by omega, h2⟩

/-- an operation of the head waits for earlier ones only -/
def afterB (l : List Oper) (n : Nat) : Bool := (List.range n).all fun j => match l.toArray[j]? with | some o => o.after.all fun e => decide (e.on < j) | none => false
/-- the head is done, the tail is not -/
def headDone (l : List Oper) (n : Nat) : Array Bool := ((List.range l.length).map fun j => decide (j < n)).toArray

theorem ready_any (hA : afterB l n = true) {listed : Array Bool} (hsz : n ≤ listed.size) : ∀ i, i < n → listed.getD i true = false → Region.ready .any l.toArray listed ≠ [] := by
  intro i
  induction i using Nat.strongRecOn with
  | ind i ih =>
  intro hi hun
  have hj := List.all_eq_true.1 hA i (List.mem_range.2 hi)
  cases ho : l.toArray[i]? with
  | none => rw [ho] at hj; cases hj
  | some o =>
    rw [ho] at hj
    by_cases hall : ∀ e ∈ o.after, Region.binds .any e = true → listed.getD e.on false = true
    · have : i ∈ Region.ready .any l.toArray listed := mem_ready.2 ⟨hun, o, ho, hall⟩
      intro h0
      rw [h0] at this
      cases this
    · obtain ⟨e, he⟩ := Classical.not_forall.1 hall
      obtain ⟨h1, he⟩ := Classical.not_imp.1 he
      obtain ⟨h2, h3⟩ := Classical.not_imp.1 he
      have h4 : e.on < i := by
        have := Array.all_eq_true'.1 hj e h1
        simpa using this
      refine ih e.on h4 (by omega) ?_
      have h5 : e.on < listed.size := by omega
      simp [Array.getD, h5] at h3 ⊢
      exact h3

theorem HT.inv (I : Act → Array Bool → Act → World → Prop) {a0 : Act} (hB : headB l n = true) (hA : afterB l n = true) (hseq : Region.seqB .any l.toArray (l.toArray.size - n) n (headDone l n) = true)
    (step : ∀ i oi listed a w, i < n → l.toArray[i]? = some oi → listed.getD i true = false → I a0 listed a w →
      Region.wanted oi (yielded l.toArray a.tmps) = true ∧ ∀ K : Act → World → Prop, Held (∀ a' w', S w' → I a0 (listed.setIfInBounds i true) a' w' → K a' w') → oi.wp P a w K Q)
    (fin : ∀ listed a w, (∀ i, i < n → listed.getD i true = true) → I a0 listed a w → wpList P l.toArray Q (l.drop n) a w) :
    ∀ (f : Nat) (listed : Array Bool) (a : Act) (w : World), leftN listed n = f → I a0 listed a w → HT P l Q S n f listed a w := by
  simp only [headB, Bool.and_eq_true, decide_eq_true_eq] at hB
  obtain ⟨⟨⟨hsel, hn⟩, hs⟩, hc⟩ := hB
  intro f
  induction f with
  | zero =>
    intro listed a w hl hI inv
    have hd := leftN_zero hl
    have he : listed = headDone l n := by
      have hsz := inv.size
      refine Array.ext (by simp [headDone, hsz]) fun j h1 h2 => ?_
      rcases Nat.lt_or_ge j n with h | h
      · have := hd j h
        simp [Array.getD, h1] at this
        simp [headDone, this, h]
      · have := inv.tail j h (by omega)
        simp [Array.getD, h1] at this
        simp [headDone, this]
        omega
    exact ⟨by rw [he]; exact hseq, fin listed a w hd hI⟩
  | succ f ih =>
    intro listed a w hl hI inv
    have hsz := inv.size
    obtain ⟨i0, hi0, hun0⟩ := leftN_pos (listed := listed) (n := n) (by omega)
    refine ⟨ready_any hA (by omega) i0 hi0 hun0, fun j hj => ?_⟩
    have hjn : j < n := by
      rcases Nat.lt_or_ge j n with h | h
      · exact h
      · exact absurd hj (tail_waits hs hc hn inv _ i0 rfl hi0 hun0 j h)
    obtain ⟨hjun, oj, hoj, _⟩ := mem_ready.1 hj
    obtain ⟨hw, hst⟩ := step j oj listed a w hjn hoj hjun hI
    refine ⟨hjn, ?_⟩
    have hl' : leftN (listed.setIfInBounds j true) n = f := by
      have := leftN_set listed hjun n
      rw [if_pos hjn] at this
      omega
    have h1 : wpOp P l.toArray Q j (fun a' w' => S w' ∧ HT P l Q S n f (listed.setIfInBounds j true) a' w') a w := by
      unfold wpOp
      simp only [hoj, hw, if_true]
      exact .inl (hst _ fun a' w' h1 h2 => ⟨h1, ih _ a' w' hl' h2⟩)
    exact wpOp_mono (fun a' w' h' => ⟨h'.1, h'.2 (inv.set hj hjn)⟩) h1

/-- from the state that the head stands at -/
theorem HT.inv0 (I : Act → Array Bool → Act → World → Prop) {a0 : Act} {f : Nat} {listed0 : Array Bool} {w0 : World} (hB : headB l n = true) (hA : afterB l n = true) (hseq : Region.seqB .any l.toArray (l.toArray.size - n) n (headDone l n) = true) (hl : leftN listed0 n = f) (h0 : I a0 listed0 a0 w0)
    (step : ∀ i oi listed a w, i < n → l.toArray[i]? = some oi → listed.getD i true = false → I a0 listed a w →
      Region.wanted oi (yielded l.toArray a.tmps) = true ∧ ∀ K : Act → World → Prop, Held (∀ a' w', S w' → I a0 (listed.setIfInBounds i true) a' w' → K a' w') → oi.wp P a w K Q)
    (fin : ∀ listed a w, (∀ i, i < n → listed.getD i true = true) → I a0 listed a w → wpList P l.toArray Q (l.drop n) a w) : HT P l Q S n f listed0 a0 w0 :=
  HT.inv I hB hA hseq step fin f listed0 a0 w0 hl h0
end

end Go.Proofs.YtajeghkjppkhcaaGreat
