/-
 What is proved: the law FnElemMap answers true for every input, and leaves its arguments as they were. No condition.
-/
import Derived.Test.YtbicoknghdgahaaGreatLC05
set_option linter.unusedVariables false
set_option linter.unusedSimpArgs false
namespace Go.Proofs.YtbicoknghdgahaaGreat
open Go.ChangeShapes Go.WideShapes Go.ChangeAt Go.RowKit

theorem Try.ownK : ownKnob Tryz.prog.godebug = none := by kernel_rfl
theorem Try.laidK : laidOutB Tryz.prog = true := by kernel_rfl

theorem agg_of_len {v : Value} (h : v.cells.toList.length = 6) : ∃ cs : List Value, v = .agg cs.toArray ∧ v.cells.toList = cs := by
 cases v
 case agg vs => exact ⟨vs.toList, by simp, rfl⟩
 all_goals simp [Value.cells] at h

set_option maxRecDepth 100000 in
theorem fnElemMap_lifted (os : Os) (started : os.Started) (H : Type) (enc : TypeId × Value → H) :
  ReturnsInHanded {} Tryz.checked os 3 .any (Rows.fnElemMapSpec.pre6 enc Tryz.prog Tryz.f3 Rows.fnElemMapRow.domain false) (Rows.fnElemMapSpec.post enc Tryz.prog Tryz.f3 false true false false) := by
 refine lift_true started Try.ownK Try.laidK (by kernel_rfl) Tryz.func3 ?_ rfl rfl ?_
  (ChangeSpec.witness6 (enc := enc) (C := Tryz.checked) false ⟨#[], #[.slice none 0 0, .slice none 0 0, .agg #[.int .i64 0, .string ⟨#[]⟩, .slice none 0 0, .slice none 0 0, .int .i64 0, .int .i64 0, .float .f64 0, .string ⟨#[]⟩, .slice none 0 0, .slice none 0 0, .int .i64 0]], []⟩ 8 (by kernel_rfl) (by kernel_rfl) (by kernel_rfl) (by kernel_rfl)) ?_
 ·intro t ht
  rw [show Tryz.f3.params.toList = [22, 23, 29] from rfl] at ht
  simp only [List.mem_cons, List.not_mem_nil, or_false] at ht
  rcases ht with rfl | rfl | rfl
  all_goals exact ⟨by kernel_rfl, of_decide_eq_true (by kernel_rfl)⟩
 ·intro ds hd
  match ds, hd with
  | [d1, d2, d3], _ => rfl
 ·intro W base args ds ps hval hA hsz
  rw [Tryz.params3] at hA hval hsz
  obtain ⟨v1, v2, v3, e1, e2, e3, q1, q2, q3, rfl, rfl, rfl, h1, h2, h3⟩ := trodAll_three hA
  obtain ⟨PA1, pl1, pc1, rfl, hp1⟩ := open_Path h1 (hsz.part 0 rfl rfl) (hval 0 22 v1 rfl rfl)
  obtain ⟨VA2, vl2, vc2, rfl, hp2⟩ := open_Values h2 (hsz.part 1 rfl rfl) (hval 1 23 v2 rfl rfl)
  obtain ⟨rv3, cs3, rfl, hrv3⟩ := open_Elem h3 (hsz.part 2 rfl rfl)
  exact elemMapLaw hp1 hp2 hrv3

set_option maxHeartbeats 4000000 in
theorem fnElemMap_joined : joinedFacts Tryz.prog 3 Tryz.f3 Rows.fnElemMapSpec Rows.fnElemMapRow = true := by
 unfold joinedFacts
 simp only [Bool.and_eq_true]
 repeat' apply And.intro
 all_goals as_aux_lemma => kernel_rfl

theorem fnElemMap_holds : Rows.FnElemMapSaid :=
 OpenClaim.holds_of_wide 3 Tryz.f3 rfl rfl rfl rfl rfl rfl rfl ⟨rfl, rfl, rfl, rfl, rfl⟩ rfl rfl rfl rfl rfl (by kernel_rfl) Tryz.func3 fnElemMap_joined
  (of_decide_eq_true (by kernel_rfl)) (by unfold Func.isWrapper; rw [if_neg (of_decide_eq_false (by kernel_rfl))]; exact ⟨rfl, rfl⟩)
  (fun os started H enc _ => fnElemMap_lifted os started H enc)

end Go.Proofs.YtbicoknghdgahaaGreat
