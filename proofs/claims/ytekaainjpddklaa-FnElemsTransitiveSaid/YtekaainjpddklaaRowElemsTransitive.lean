/-
  What is proved: the law FnElemsTransitive answers true for every input, and leaves its arguments as they were. No condition.
-/
import Derived.Test.YtekaainjpddklaaLawElems
import Derived.Test.YtekaainjpddklaaRowE
set_option linter.unusedVariables false
set_option linter.unusedSimpArgs false

namespace Go.Proofs.Ytekaainjpddklaa
open Go.ChangeShapes Go.WideShapes Go.ChangeAt Go.RowKit

theorem Try.ownK : ownKnob Try.prog.godebug = none := by kernel_rfl
theorem Try.laidK : laidOutB Try.prog = true := by kernel_rfl

theorem agg_of_len {v : Value} (h : v.cells.toList.length = 6) : ∃ cs : List Value, v = .agg cs.toArray ∧ v.cells.toList = cs := by
  cases v
  case agg vs => exact ⟨vs.toList, by simp, rfl⟩
  all_goals simp [Value.cells] at h

set_option maxRecDepth 100000 in
theorem fnElemsTransitive_lifted (os : Os) (started : os.Started) (H : Type) (enc : TypeId × Value → H) :
    ReturnsInHanded {} Try.checked os 13 .any (Rows.fnElemsTransitiveSpec.pre6 enc Try.prog Try.f13 Rows.fnElemsTransitiveRow.domain false) (Rows.fnElemsTransitiveSpec.post enc Try.prog Try.f13 false true false false) := by
  refine lift_true started Try.ownK Try.laidK (by kernel_rfl) Try.func13 ?_ rfl rfl ?_
    (ChangeSpec.witness6 (enc := enc) (C := Try.checked) false ⟨#[], #[.agg #[.int .i64 0, .string ⟨#[]⟩, .slice none 0 0, .slice none 0 0, .int .i64 0, .int .i64 0, .float .f64 0, .string ⟨#[]⟩, .slice none 0 0, .slice none 0 0, .int .i64 0], .agg #[.int .i64 0, .string ⟨#[]⟩, .slice none 0 0, .slice none 0 0, .int .i64 0, .int .i64 0, .float .f64 0, .string ⟨#[]⟩, .slice none 0 0, .slice none 0 0, .int .i64 0], .agg #[.int .i64 0, .string ⟨#[]⟩, .slice none 0 0, .slice none 0 0, .int .i64 0, .int .i64 0, .float .f64 0, .string ⟨#[]⟩, .slice none 0 0, .slice none 0 0, .int .i64 0]], []⟩ 8 (by kernel_rfl) (by kernel_rfl) (by kernel_rfl) (by kernel_rfl)) ?_
  · intro t ht
    rw [show Try.f13.params.toList = [76, 76, 76] from rfl] at ht
    simp only [List.mem_cons, List.not_mem_nil, or_false] at ht
    rcases ht with rfl | rfl | rfl
    all_goals exact ⟨by kernel_rfl, of_decide_eq_true (by kernel_rfl)⟩
  · intro ds hd
    match ds, hd with
    | [d1, d2, d3], _ => rfl
  · intro W base args ds ps hval hA hsz
    rw [Try.params13] at hA hval hsz
    obtain ⟨v1, v2, v3, e1, e2, e3, q1, q2, q3, rfl, rfl, rfl, h1, h2, h3⟩ := trodAll_three hA
    obtain ⟨rv1, cs1, rfl, hrv1⟩ := open_Elem h1 (hsz.part 0 rfl rfl)
    obtain ⟨rv2, cs2, rfl, hrv2⟩ := open_Elem h2 (hsz.part 1 rfl rfl)
    obtain ⟨rv3, cs3, rfl, hrv3⟩ := open_Elem h3 (hsz.part 2 rfl rfl)
    exact elemsLaw rv1 rv2 rv3 W cs1 cs2 cs3 hrv1 hrv2 hrv3

theorem fnElemsTransitive_holds : Rows.FnElemsTransitiveSaid :=
  OpenClaim.holds_of_wide 13 Try.f13 rfl rfl rfl rfl rfl rfl rfl ⟨rfl, rfl, rfl, rfl, rfl⟩ rfl rfl rfl rfl rfl (by kernel_rfl) Try.func13 (by kernel_rfl)
    (of_decide_eq_true (by kernel_rfl)) (by unfold Func.isWrapper; rw [if_neg (of_decide_eq_false (by kernel_rfl))]; exact ⟨rfl, rfl⟩)
    (fun os started H enc _ => fnElemsTransitive_lifted os started H enc)

end Go.Proofs.Ytekaainjpddklaa
