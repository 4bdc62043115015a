/-
 What is proved: the law FnSetDescend answers true for every input, and leaves its arguments as they were. No condition.
-/
import Derived.Test.YtbicoknghdgahaaGreatLB02
set_option linter.unusedVariables false
set_option linter.unusedSimpArgs false
namespace Go.Proofs.YtbicoknghdgahaaGreat
open Go.ChangeShapes Go.WideShapes Go.ChangeAt Go.RowKit

theorem Try.ownK : ownKnob Tryz.prog.godebug = none := by kernel_rfl
theorem Try.laidK : laidOutB Tryz.prog = true := by kernel_rfl

theorem agg_of_len {v : Value} (h : v.cells.toList.length = 6) : ∃ cs : List Value, v = .agg cs.toArray ∧ v.cells.toList = cs := by
 cases v
 case agg vs => exact ⟨vs.toList, by simp, rfl⟩
 all_goals simp [Value.cells] at h

set_option maxRecDepth 100000 in
theorem fnSetDescend_lifted (os : Os) (started : os.Started) (H : Type) (enc : TypeId × Value → H) :
  ReturnsInHanded {} Tryz.checked os 4 .any (Rows.fnSetDescendSpec.pre6 enc Tryz.prog Tryz.f4 Rows.fnSetDescendRow.domain false) (Rows.fnSetDescendSpec.post enc Tryz.prog Tryz.f4 false true false false) := by
 refine lift_true started Try.ownK Try.laidK (by kernel_rfl) Tryz.func4 ?_ rfl rfl ?_
  (ChangeSpec.witness6 (enc := enc) (C := Tryz.checked) false ⟨#[], #[.slice none 0 0, .agg #[.int .i64 0, .string ⟨#[]⟩, .slice none 0 0, .slice none 0 0, .int .i64 0, .int .i64 0, .float .f64 0, .string ⟨#[]⟩, .slice none 0 0, .slice none 0 0, .int .i64 0], .slice none 0 0], []⟩ 8 (by kernel_rfl) (by kernel_rfl) (by kernel_rfl) (by kernel_rfl)) ?_
 ·intro t ht
  rw [show Tryz.f4.params.toList = [36, 29, 36] from rfl] at ht
  simp only [List.mem_cons, List.not_mem_nil, or_false] at ht
  rcases ht with rfl | rfl | rfl
  all_goals exact ⟨by kernel_rfl, of_decide_eq_true (by kernel_rfl)⟩
 ·intro ds hd
  match ds, hd with
  | [d1, d2, d3], _ => rfl
 ·intro W base args ds ps hval hA hsz
  rw [Tryz.params4] at hA hval hsz
  obtain ⟨v1, v2, v3, e1, e2, e3, q1, q2, q3, rfl, rfl, rfl, h1, h2, h3⟩ := trodAll_three hA
  obtain ⟨PA1, pl1, pc1, rfl, hp1⟩ := open_Paths h1 (hsz.part 0 rfl rfl) (hval 0 36 v1 rfl rfl)
  obtain ⟨rv2, cs2, rfl, hrv2⟩ := open_Elem h2 (hsz.part 1 rfl rfl)
  obtain ⟨PA3, pl3, pc3, rfl, hp3⟩ := open_Paths h3 (hsz.part 2 rfl rfl) (hval 2 36 v3 rfl rfl)
  exact setDescendLaw hp1 hrv2 hp3

set_option maxHeartbeats 4000000 in
theorem fnSetDescend_joined : joinedFacts Tryz.prog 4 Tryz.f4 Rows.fnSetDescendSpec Rows.fnSetDescendRow = true := by
 unfold joinedFacts
 simp only [Bool.and_eq_true]
 repeat' apply And.intro
 all_goals as_aux_lemma => kernel_rfl

theorem fnSetDescend_holds : Rows.FnSetDescendSaid :=
 OpenClaim.holds_of_wide 4 Tryz.f4 rfl rfl rfl rfl rfl rfl rfl ⟨rfl, rfl, rfl, rfl, rfl⟩ rfl rfl rfl rfl rfl (by kernel_rfl) Tryz.func4 fnSetDescend_joined
  (of_decide_eq_true (by kernel_rfl)) (by unfold Func.isWrapper; rw [if_neg (of_decide_eq_false (by kernel_rfl))]; exact ⟨rfl, rfl⟩)
  (fun os started H enc _ => fnSetDescend_lifted os started H enc)

end Go.Proofs.YtbicoknghdgahaaGreat
