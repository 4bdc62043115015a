/-
 What is proved: the law FnSetUnion answers true for every input, and leaves its arguments as they were. No condition.
-/
import Derived.Test.YtbicoknghdgahaaGreatKH01
set_option linter.unusedVariables false
set_option linter.unusedSimpArgs false
namespace Go.Proofs.YtbicoknghdgahaaGreat
open Go.ChangeShapes Go.WideShapes Go.ChangeAt Go.RowKit

theorem Try.ownK : ownKnob Tryz.prog.godebug = none := by kernel_rfl
theorem Try.laidK : laidOutB Tryz.prog = true := by kernel_rfl

theorem agg_of_len {v : Value} (h : v.cells.toList.length = 6) : ∃ cs : List Value, v = .agg cs.toArray ∧ v.cells.toList = cs := by
 cases v
 case agg vs => exact ⟨vs.toList, by simp, rfl⟩
 all_goals simp [Value.cells] at h

set_option maxRecDepth 100000 in
theorem fnSetUnion_lifted (os : Os) (started : os.Started) (H : Type) (enc : TypeId × Value → H) :
  ReturnsInHanded {} Tryz.checked os 6 .any (Rows.fnSetUnionSpec.pre6 enc Tryz.prog Tryz.f6 Rows.fnSetUnionRow.domain false) (Rows.fnSetUnionSpec.post enc Tryz.prog Tryz.f6 false true false false) := by
 refine lift_true started Try.ownK Try.laidK (by kernel_rfl) Tryz.func6 ?_ rfl rfl ?_
  (ChangeSpec.witness6 (enc := enc) (C := Tryz.checked) false ⟨#[], #[.slice none 0 0, .slice none 0 0], []⟩ 8 (by kernel_rfl) (by kernel_rfl) (by kernel_rfl) (by kernel_rfl)) ?_
 ·intro t ht
  rw [show Tryz.f6.params.toList = [36, 36] from rfl] at ht
  simp only [List.mem_cons, List.not_mem_nil, or_false] at ht
  rcases ht with rfl | rfl
  all_goals exact ⟨by kernel_rfl, of_decide_eq_true (by kernel_rfl)⟩
 ·intro ds hd
  match ds, hd with
  | [d1, d2], _ => rfl
 ·intro W base args ds ps hval hA hsz
  rw [Tryz.params6] at hA hval hsz
  obtain ⟨v1, v2, e1, e2, q1, q2, rfl, rfl, rfl, h1, h2⟩ := trodAll_two hA
  obtain ⟨PA1, pl1, pc1, rfl, hp1⟩ := open_Paths h1 (hsz.part 0 rfl rfl) (hval 0 36 v1 rfl rfl)
  obtain ⟨PA2, pl2, pc2, rfl, hp2⟩ := open_Paths h2 (hsz.part 1 rfl rfl) (hval 1 36 v2 rfl rfl)
  exact setUnionLaw hp1 hp2

set_option maxHeartbeats 4000000 in
theorem fnSetUnion_joined : joinedFacts Tryz.prog 6 Tryz.f6 Rows.fnSetUnionSpec Rows.fnSetUnionRow = true := by
 unfold joinedFacts
 simp only [Bool.and_eq_true]
 repeat' apply And.intro
 all_goals as_aux_lemma => kernel_rfl

theorem fnSetUnion_holds : Rows.FnSetUnionSaid :=
 OpenClaim.holds_of_wide 6 Tryz.f6 rfl rfl rfl rfl rfl rfl rfl ⟨rfl, rfl, rfl, rfl, rfl⟩ rfl rfl rfl rfl rfl (by kernel_rfl) Tryz.func6 fnSetUnion_joined
  (of_decide_eq_true (by kernel_rfl)) (by unfold Func.isWrapper; rw [if_neg (of_decide_eq_false (by kernel_rfl))]; exact ⟨rfl, rfl⟩)
  (fun os started H enc _ => fnSetUnion_lifted os started H enc)

end Go.Proofs.YtbicoknghdgahaaGreat
