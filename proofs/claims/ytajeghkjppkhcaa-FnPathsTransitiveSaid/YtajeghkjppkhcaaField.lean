/-
  The reference's Field of a plain map (two results); a region in which two operations may come up.
-/
import Derived.Test.YtajeghkjppkhcaaLaw
set_option linter.unusedVariables false
set_option linter.unusedSimpArgs false
namespace Go.Proofs.Ytajeghkjppkhcaa
open Go.RowKit
section
variable {P : Program} {l : List Oper} {Q : Exit → Act → World → Prop} {S : World → Prop} {n : Nat}
/-- two operations may come up now: either is carried out -/
theorem HT.two (i j : Nat) {oi oj : Oper} {ri rj : List Oper} {f : Nat} {listed : Array Bool} {a : Act} {w : World} (hdi : l.drop i = oi :: ri) (hdj : l.drop j = oj :: rj)
    (hr : (Region.ready .any l.toArray listed == [i, j] && decide (i < n) && decide (j < n)) = true)
    (hwi : Region.wanted oi (yielded l.toArray a.tmps) = true) (hwj : Region.wanted oj (yielded l.toArray a.tmps) = true)
    (hi : ∀ K : Act → World → Prop, Held (∀ a' w', S w' → HT P l Q S n f (listed.setIfInBounds i true) a' w' → K a' w') → oi.wp P a w K Q)
    (hj : ∀ K : Act → World → Prop, Held (∀ a' w', S w' → HT P l Q S n f (listed.setIfInBounds j true) a' w' → K a' w') → oj.wp P a w K Q) : HT P l Q S n (f + 1) listed a w := by
  intro inv
  replace hi : wpOp P l.toArray Q i (fun a' w' => S w' ∧ HT P l Q S n f (listed.setIfInBounds i true) a' w') a w := by
    unfold wpOp
    simp only [at_of_drop hdi, hwi, if_true]
    exact .inl (hi _ fun a' w' h1 h2 => ⟨h1, h2⟩)
  replace hj : wpOp P l.toArray Q j (fun a' w' => S w' ∧ HT P l Q S n f (listed.setIfInBounds j true) a' w') a w := by
    unfold wpOp
    simp only [at_of_drop hdj, hwj, if_true]
    exact .inl (hj _ fun a' w' h1 h2 => ⟨h1, h2⟩)
  simp only [Bool.and_eq_true, beq_iff_eq, decide_eq_true_eq] at hr
  obtain ⟨⟨hr, hin⟩, hjn⟩ := hr
  refine ⟨by rw [hr]; simp, fun m hm => ?_⟩
  have hmij : m = i ∨ m = j := by rw [hr] at hm; simpa using hm
  rcases hmij with rfl | rfl
  · exact ⟨hin, wpOp_mono (fun a' w' h' => ⟨h'.1, h'.2 (inv.set hm hin)⟩) hi⟩
  · exact ⟨hjn, wpOp_mono (fun a' w' h' => ⟨h'.1, h'.2 (inv.set hm hjn)⟩) hj⟩
end

end Go.Proofs.Ytajeghkjppkhcaa
