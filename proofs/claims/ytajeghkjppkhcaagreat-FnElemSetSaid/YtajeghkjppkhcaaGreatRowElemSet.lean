/-
  What is proved: the law FnElemSet answers true for every input, and leaves its arguments as they were. No condition.
-/
import Derived.Test.YtajeghkjppkhcaaGreatLawElemSet
import Derived.Test.YtajeghkjppkhcaaGreatRowEP
set_option linter.unusedVariables false
set_option linter.unusedSimpArgs false

namespace Go.Proofs.YtajeghkjppkhcaaGreat
open Go.ChangeShapes Go.WideShapes Go.ChangeAt Go.RowKit

theorem Try.ownK : ownKnob Tryz.prog.godebug = none := by kernel_rfl
theorem Try.laidK : laidOutB Tryz.prog = true := by kernel_rfl

theorem agg_of_len {v : Value} (h : v.cells.toList.length = 6) : ∃ cs : List Value, v = .agg cs.toArray ∧ v.cells.toList = cs := by
  cases v
  case agg vs => exact ⟨vs.toList, by simp, rfl⟩
  all_goals simp [Value.cells] at h

set_option maxRecDepth 100000 in
theorem fnElemSet_lifted (os : Os) (started : os.Started) (H : Type) (enc : TypeId × Value → H) :
    ReturnsInHanded {} Tryz.checked os 3 .any (Rows.fnElemSetSpec.pre6 enc Tryz.prog Tryz.f3 Rows.fnElemSetRow.domain false) (Rows.fnElemSetSpec.post enc Tryz.prog Tryz.f3 false true false false) := by
  refine lift_true started Try.ownK Try.laidK (by kernel_rfl) Tryz.func3 ?_ rfl rfl ?_
    (ChangeSpec.witness6 (enc := enc) (C := Tryz.checked) false ⟨#[], #[.slice none 0 0], []⟩ 8 (by kernel_rfl) (by kernel_rfl) (by kernel_rfl) (by kernel_rfl)) ?_
  · intro t ht
    rw [show Tryz.f3.params.toList = [22] from rfl] at ht
    simp only [List.mem_cons, List.not_mem_nil, or_false] at ht
    subst ht
    all_goals exact ⟨by kernel_rfl, of_decide_eq_true (by kernel_rfl)⟩
  · intro ds hd
    match ds, hd with
    | [d], _ => rfl
  · intro W base args ds ps hval hA hsz
    rw [Tryz.params3] at hA hval hsz
    obtain ⟨v1, e1, rfl, rfl, h1⟩ := trodAll_one hA
    obtain ⟨PA1, pl1, pc1, rfl, hp1⟩ := open_Path h1 (hsz.part 0 rfl rfl) (hval 0 22 v1 rfl rfl)
    exact elemSetLaw hp1

set_option maxHeartbeats 4000000 in
theorem fnElemSet_joined : joinedFacts Tryz.prog 3 Tryz.f3 Rows.fnElemSetSpec Rows.fnElemSetRow = true := by
  unfold joinedFacts
  simp only [Bool.and_eq_true]
  repeat' apply And.intro
  all_goals as_aux_lemma => kernel_rfl

theorem fnElemSet_holds : Rows.FnElemSetSaid :=
  OpenClaim.holds_of_wide 3 Tryz.f3 rfl rfl rfl rfl rfl rfl rfl ⟨rfl, rfl, rfl, rfl, rfl⟩ rfl rfl rfl rfl rfl (by kernel_rfl) Tryz.func3 fnElemSet_joined
    (of_decide_eq_true (by kernel_rfl)) (by unfold Func.isWrapper; rw [if_neg (of_decide_eq_false (by kernel_rfl))]; exact ⟨rfl, rfl⟩)
    (fun os started H enc _ => fnElemSet_lifted os started H enc)

end Go.Proofs.YtajeghkjppkhcaaGreat
