/-
 What is proved: the law FnFilterWild answers true for every input, and leaves its arguments as they were. No condition.
-/
import Derived.Test.YtbicoknghdgahaaGreatNA05
set_option linter.unusedVariables false
set_option linter.unusedSimpArgs false
namespace Go.Proofs.YtbicoknghdgahaaGreat
open Go.ChangeShapes Go.WideShapes Go.ChangeAt Go.RowKit

theorem Try.ownK : ownKnob Tryz.prog.godebug = none := by kernel_rfl
theorem Try.laidK : laidOutB Tryz.prog = true := by kernel_rfl

theorem agg_of_len {v : Value} (h : v.cells.toList.length = 6) : ∃ cs : List Value, v = .agg cs.toArray ∧ v.cells.toList = cs := by
 cases v
 case agg vs => exact ⟨vs.toList, by simp, rfl⟩
 all_goals simp [Value.cells] at h

set_option maxRecDepth 100000 in
theorem fnFilterWild_lifted (os : Os) (started : os.Started) (H : Type) (enc : TypeId × Value → H) :
  ReturnsInHanded {} Tryz.checked os 12 .any (Rows.fnFilterWildSpec.pre6 enc Tryz.prog Tryz.f12 Rows.fnFilterWildRow.domain false) (Rows.fnFilterWildSpec.post enc Tryz.prog Tryz.f12 false true false false) := by
 refine lift_true started Try.ownK Try.laidK (by kernel_rfl) Tryz.func12 ?_ rfl rfl ?_
  (ChangeSpec.witness6 (enc := enc) (C := Tryz.checked) false ⟨#[], #[.slice none 0 0, .int .i64 0], []⟩ 8 (by kernel_rfl) (by kernel_rfl) (by kernel_rfl) (by kernel_rfl)) ?_
 ·intro t ht
  rw [show Tryz.f12.params.toList = [36, 3] from rfl] at ht
  simp only [List.mem_cons, List.not_mem_nil, or_false] at ht
  rcases ht with rfl | rfl
  all_goals exact ⟨by kernel_rfl, of_decide_eq_true (by kernel_rfl)⟩
 ·intro ds hd
  match ds, hd with
  | [d1, d2], _ => rfl
 ·intro W base args ds ps hval hA hsz
  rw [Tryz.params12] at hA hval hsz
  obtain ⟨v1, v2, e1, e2, q1, q2, rfl, rfl, rfl, h1, h2⟩ := trodAll_two hA
  obtain ⟨PA1, pl1, pc1, rfl, hp1⟩ := open_Paths h1 (hsz.part 0 rfl rfl) (hval 0 36 v1 rfl rfl)
  obtain ⟨n2, rfl, rfl, rfl, wn2⟩ := open_int Tryz.underlying3 (hval 1 3 v2 rfl rfl) h2
  have hn2 : okInt n2 := okInt_of_wf wn2
  exact filterWildLaw hp1 hn2

set_option maxHeartbeats 4000000 in
theorem fnFilterWild_joined : joinedFacts Tryz.prog 12 Tryz.f12 Rows.fnFilterWildSpec Rows.fnFilterWildRow = true := by
 unfold joinedFacts
 simp only [Bool.and_eq_true]
 repeat' apply And.intro
 all_goals as_aux_lemma => kernel_rfl

theorem fnFilterWild_holds : Rows.FnFilterWildSaid :=
 OpenClaim.holds_of_wide 12 Tryz.f12 rfl rfl rfl rfl rfl rfl rfl ⟨rfl, rfl, rfl, rfl, rfl⟩ rfl rfl rfl rfl rfl (by kernel_rfl) Tryz.func12 fnFilterWild_joined
  (of_decide_eq_true (by kernel_rfl)) (by unfold Func.isWrapper; rw [if_neg (of_decide_eq_false (by kernel_rfl))]; exact ⟨rfl, rfl⟩)
  (fun os started H enc _ => fnFilterWild_lifted os started H enc)

end Go.Proofs.YtbicoknghdgahaaGreat
