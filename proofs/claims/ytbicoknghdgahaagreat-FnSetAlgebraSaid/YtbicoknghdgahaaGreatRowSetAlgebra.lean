/-
 What is proved: the law FnSetAlgebra answers true for every input, and leaves its arguments as they were. No condition.
-/
import Derived.Test.YtbicoknghdgahaaGreatKJ10
set_option linter.unusedVariables false
set_option linter.unusedSimpArgs false
namespace Go.Proofs.YtbicoknghdgahaaGreat
open Go.ChangeShapes Go.WideShapes Go.ChangeAt Go.RowKit

theorem Try.ownK : ownKnob Tryz.prog.godebug = none := by kernel_rfl
theorem Try.laidK : laidOutB Tryz.prog = true := by kernel_rfl

theorem agg_of_len {v : Value} (h : v.cells.toList.length = 6) : ∃ cs : List Value, v = .agg cs.toArray ∧ v.cells.toList = cs := by
 cases v
 case agg vs => exact ⟨vs.toList, by simp, rfl⟩
 all_goals simp [Value.cells] at h

set_option maxRecDepth 100000 in
theorem fnSetAlgebra_lifted (os : Os) (started : os.Started) (H : Type) (enc : TypeId × Value → H) :
  ReturnsInHanded {} Tryz.checked os 10 .any (Rows.fnSetAlgebraSpec.pre6 enc Tryz.prog Tryz.f10 Rows.fnSetAlgebraRow.domain false) (Rows.fnSetAlgebraSpec.post enc Tryz.prog Tryz.f10 false true false false) := by
 refine lift_true started Try.ownK Try.laidK (by kernel_rfl) Tryz.func10 ?_ rfl rfl ?_
  (ChangeSpec.witness6 (enc := enc) (C := Tryz.checked) false ⟨#[], #[.slice none 0 0, .slice none 0 0, .slice none 0 0], []⟩ 8 (by kernel_rfl) (by kernel_rfl) (by kernel_rfl) (by kernel_rfl)) ?_
 ·intro t ht
  rw [show Tryz.f10.params.toList = [36, 36, 36] from rfl] at ht
  simp only [List.mem_cons, List.not_mem_nil, or_false] at ht
  rcases ht with rfl | rfl | rfl
  all_goals exact ⟨by kernel_rfl, of_decide_eq_true (by kernel_rfl)⟩
 ·intro ds hd
  match ds, hd with
  | [d1, d2, d3], _ => rfl
 ·intro W base args ds ps hval hA hsz
  rw [Tryz.params10] at hA hval hsz
  obtain ⟨v1, v2, v3, e1, e2, e3, q1, q2, q3, rfl, rfl, rfl, h1, h2, h3⟩ := trodAll_three hA
  obtain ⟨PA1, pl1, pc1, rfl, hp1⟩ := open_Paths h1 (hsz.part 0 rfl rfl) (hval 0 36 v1 rfl rfl)
  obtain ⟨PA2, pl2, pc2, rfl, hp2⟩ := open_Paths h2 (hsz.part 1 rfl rfl) (hval 1 36 v2 rfl rfl)
  obtain ⟨PA3, pl3, pc3, rfl, hp3⟩ := open_Paths h3 (hsz.part 2 rfl rfl) (hval 2 36 v3 rfl rfl)
  exact setAlgebraLaw hp1 hp2 hp3

set_option maxHeartbeats 4000000 in
theorem fnSetAlgebra_joined : joinedFacts Tryz.prog 10 Tryz.f10 Rows.fnSetAlgebraSpec Rows.fnSetAlgebraRow = true := by
 unfold joinedFacts
 simp only [Bool.and_eq_true]
 repeat' apply And.intro
 all_goals as_aux_lemma => kernel_rfl

theorem fnSetAlgebra_holds : Rows.FnSetAlgebraSaid :=
 OpenClaim.holds_of_wide 10 Tryz.f10 rfl rfl rfl rfl rfl rfl rfl ⟨rfl, rfl, rfl, rfl, rfl⟩ rfl rfl rfl rfl rfl (by kernel_rfl) Tryz.func10 fnSetAlgebra_joined
  (of_decide_eq_true (by kernel_rfl)) (by unfold Func.isWrapper; rw [if_neg (of_decide_eq_false (by kernel_rfl))]; exact ⟨rfl, rfl⟩)
  (fun os started H enc _ => fnSetAlgebra_lifted os started H enc)

end Go.Proofs.YtbicoknghdgahaaGreat
