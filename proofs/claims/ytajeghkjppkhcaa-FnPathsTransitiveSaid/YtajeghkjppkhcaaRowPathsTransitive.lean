/-
  What is proved: the law FnPathsTransitive answers true for every input, and leaves its arguments as they were. No condition.
-/
import Derived.Test.YtajeghkjppkhcaaLawPaths
import Derived.Test.YtajeghkjppkhcaaRowP
set_option linter.unusedVariables false
set_option linter.unusedSimpArgs false

namespace Go.Proofs.Ytajeghkjppkhcaa
open Go.ChangeShapes Go.WideShapes Go.ChangeAt Go.RowKit

theorem Try.ownK : ownKnob Try.prog.godebug = none := by kernel_rfl
theorem Try.laidK : laidOutB Try.prog = true := by kernel_rfl

theorem agg_of_len {v : Value} (h : v.cells.toList.length = 6) : ∃ cs : List Value, v = .agg cs.toArray ∧ v.cells.toList = cs := by
  cases v
  case agg vs => exact ⟨vs.toList, by simp, rfl⟩
  all_goals simp [Value.cells] at h

set_option maxRecDepth 100000 in
theorem fnPathsTransitive_lifted (os : Os) (started : os.Started) (H : Type) (enc : TypeId × Value → H) :
    ReturnsInHanded {} Try.checked os 3 .any (Rows.fnPathsTransitiveSpec.pre6 enc Try.prog Try.f3 Rows.fnPathsTransitiveRow.domain false) (Rows.fnPathsTransitiveSpec.post enc Try.prog Try.f3 false true false false) := by
  refine lift_true started Try.ownK Try.laidK (by kernel_rfl) Try.func3 ?_ rfl rfl ?_
    (ChangeSpec.witness6 (enc := enc) (C := Try.checked) false ⟨#[], #[.slice none 0 0, .slice none 0 0, .slice none 0 0], []⟩ 8 (by kernel_rfl) (by kernel_rfl) (by kernel_rfl) (by kernel_rfl)) ?_
  · intro t ht
    rw [show Try.f3.params.toList = [22, 22, 22] from rfl] at ht
    simp only [List.mem_cons, List.not_mem_nil, or_false] at ht
    rcases ht with rfl | rfl | rfl
    all_goals exact ⟨by kernel_rfl, of_decide_eq_true (by kernel_rfl)⟩
  · intro ds hd
    match ds, hd with
    | [d1, d2, d3], _ => rfl
  · intro W base args ds ps hval hA hsz
    rw [Try.params3] at hA hval hsz
    obtain ⟨v1, v2, v3, e1, e2, e3, q1, q2, q3, rfl, rfl, rfl, h1, h2, h3⟩ := trodAll_three hA
    obtain ⟨PA1, pl1, pc1, rfl, hp1⟩ := open_Path h1 (hsz.part 0 rfl rfl) (hval 0 22 v1 rfl rfl)
    obtain ⟨PA2, pl2, pc2, rfl, hp2⟩ := open_Path h2 (hsz.part 1 rfl rfl) (hval 1 22 v2 rfl rfl)
    obtain ⟨PA3, pl3, pc3, rfl, hp3⟩ := open_Path h3 (hsz.part 2 rfl rfl) (hval 2 22 v3 rfl rfl)
    exact pathsLaw hp1 hp2 hp3

theorem fnPathsTransitive_holds : Rows.FnPathsTransitiveSaid :=
  OpenClaim.holds_of_wide 3 Try.f3 rfl rfl rfl rfl rfl rfl rfl ⟨rfl, rfl, rfl, rfl, rfl⟩ rfl rfl rfl rfl rfl (by kernel_rfl) Try.func3 (by kernel_rfl)
    (of_decide_eq_true (by kernel_rfl)) (by unfold Func.isWrapper; rw [if_neg (of_decide_eq_false (by kernel_rfl))]; exact ⟨rfl, rfl⟩)
    (fun os started H enc _ => fnPathsTransitive_lifted os started H enc)

end Go.Proofs.Ytajeghkjppkhcaa
