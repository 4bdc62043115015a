/-
 What is proved: the law FnConflictSet answers true for every input, and leaves its arguments as they were. No condition.
-/
import Derived.Test.YtbicoknghdgahaaGreatKI01
set_option linter.unusedVariables false
set_option linter.unusedSimpArgs false
namespace Go.Proofs.YtbicoknghdgahaaGreat
open Go.ChangeShapes Go.WideShapes Go.ChangeAt Go.RowKit

theorem Try.ownK : ownKnob Tryz.prog.godebug = none := by kernel_rfl
theorem Try.laidK : laidOutB Tryz.prog = true := by kernel_rfl

theorem agg_of_len {v : Value} (h : v.cells.toList.length = 6) : ∃ cs : List Value, v = .agg cs.toArray ∧ v.cells.toList = cs := by
 cases v
 case agg vs => exact ⟨vs.toList, by simp, rfl⟩
 all_goals simp [Value.cells] at h

set_option maxRecDepth 100000 in
theorem fnConflictSet_lifted (os : Os) (started : os.Started) (H : Type) (enc : TypeId × Value → H) :
  ReturnsInHanded {} Tryz.checked os 5 .any (Rows.fnConflictSetSpec.pre6 enc Tryz.prog Tryz.f5 Rows.fnConflictSetRow.domain false) (Rows.fnConflictSetSpec.post enc Tryz.prog Tryz.f5 false true false false) := by
 refine lift_true started Try.ownK Try.laidK (by kernel_rfl) Tryz.func5 ?_ rfl rfl ?_
  (ChangeSpec.witness6 (enc := enc) (C := Tryz.checked) false ⟨#[], #[.slice none 0 0], []⟩ 8 (by kernel_rfl) (by kernel_rfl) (by kernel_rfl) (by kernel_rfl)) ?_
 ·intro t ht
  rw [show Tryz.f5.params.toList = [42] from rfl] at ht
  simp only [List.mem_cons, List.not_mem_nil, or_false] at ht
  subst ht
  all_goals exact ⟨by kernel_rfl, of_decide_eq_true (by kernel_rfl)⟩
 ·intro ds hd
  match ds, hd with
  | [d], _ => rfl
 ·intro W base args ds ps hval hA hsz
  rw [Tryz.params5] at hA hval hsz
  obtain ⟨v1, e1, rfl, rfl, h1⟩ := trodAll_one hA
  obtain ⟨PA1, pl1, pc1, rfl, hp1⟩ := open_Conflicts h1 (hsz.part 0 rfl rfl) (hval 0 42 v1 rfl rfl)
  exact conflictSetLaw hp1

set_option maxHeartbeats 4000000 in
theorem fnConflictSet_joined : joinedFacts Tryz.prog 5 Tryz.f5 Rows.fnConflictSetSpec Rows.fnConflictSetRow = true := by
 unfold joinedFacts
 simp only [Bool.and_eq_true]
 repeat' apply And.intro
 all_goals as_aux_lemma => kernel_rfl

theorem fnConflictSet_holds : Rows.FnConflictSetSaid :=
 OpenClaim.holds_of_wide 5 Tryz.f5 rfl rfl rfl rfl rfl rfl rfl ⟨rfl, rfl, rfl, rfl, rfl⟩ rfl rfl rfl rfl rfl (by kernel_rfl) Tryz.func5 fnConflictSet_joined
  (of_decide_eq_true (by kernel_rfl)) (by unfold Func.isWrapper; rw [if_neg (of_decide_eq_false (by kernel_rfl))]; exact ⟨rfl, rfl⟩)
  (fun os started H enc _ => fnConflictSet_lifted os started H enc)

end Go.Proofs.YtbicoknghdgahaaGreat
