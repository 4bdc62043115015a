/-
  Path.Compare, Path.Equals; impl.ComparePaths, impl.EqualPaths.
-/
import Derived.Test.YtajeghkjppkhcaaGreatPathM
import Derived.Test.YtajeghkjppkhcaaGreatElemCmp
import Derived.StillTailTactics
set_option linter.unusedVariables false
set_option linter.unusedSimpArgs false
namespace Go.Proofs.YtajeghkjppkhcaaGreat
open Go.RowKit
attribute [local go_sem] run_store_float

/-- at the head of a round of Path.Equals -/
def PQInv (w : World) (p q : List E) (s : Value) (W : World) : Prop := ∃ k : Nat, s = .int .i64 (k : Int) ∧ k ≤ p.length ∧ peqv p q = peqv (p.drop k) (q.drop k) ∧ Below w.heap.size w W
theorem peqv_len : ∀ {p q : List E}, p.length ≠ q.length → peqv p q = false
  | [], [], h => absurd rfl h
  | [], _ :: _, _ => rfl
  | _ :: _, [], _ => rfl
  | a :: p, b :: q, h => by rw [peqv, peqv_len (fun e => h (by simp [e])), Bool.and_false]
theorem peqv_round {p q : List E} {k : Nat} (h : peqv p q = peqv (p.drop k) (q.drop k)) (h1 : k < p.length) (h2 : k < q.length) : (E.eqv p[k] q[k] = true → peqv p q = peqv (p.drop (k + 1)) (q.drop (k + 1))) ∧ (E.eqv p[k] q[k] = false → peqv p q = false) := by
  rw [h, List.drop_eq_getElem_cons h1, List.drop_eq_getElem_cons h2, peqv]
  exact ⟨fun e => by rw [e, Bool.true_and], fun e => by rw [e, Bool.false_and]⟩

end Go.Proofs.YtajeghkjppkhcaaGreat
