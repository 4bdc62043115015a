/-
  What is proved: the law FnZipFirst answers true for every input, and leaves its arguments as they were. No condition.
-/
import Derived.Test.YtekaainjpddklaaLawZipFirst
import Derived.Test.YtekaainjpddklaaRow
set_option linter.unusedVariables false
set_option linter.unusedSimpArgs false

namespace Go.Proofs.Ytekaainjpddklaa
open Go.ChangeShapes Go.WideShapes Go.ChangeAt Go.RowKit

theorem Try.ownK : ownKnob Try.prog.godebug = none := by kernel_rfl
theorem Try.laidK : laidOutB Try.prog = true := by kernel_rfl

theorem agg_of_len {v : Value} (h : v.cells.toList.length = 6) : ∃ cs : List Value, v = .agg cs.toArray ∧ v.cells.toList = cs := by
  cases v
  case agg vs => exact ⟨vs.toList, by simp, rfl⟩
  all_goals simp [Value.cells] at h

set_option maxRecDepth 100000 in
theorem fnZipFirst_lifted (os : Os) (started : os.Started) (H : Type) (enc : TypeId × Value → H) :
    ReturnsInHanded {} Try.checked os 7 .any (Rows.fnZipFirstSpec.pre6 enc Try.prog Try.f7 Rows.fnZipFirstRow.domain false) (Rows.fnZipFirstSpec.post enc Try.prog Try.f7 false true false false) := by
  refine lift_true started Try.ownK Try.laidK (by kernel_rfl) Try.func7 ?_ rfl rfl ?_
    (ChangeSpec.witness6 (enc := enc) (C := Try.checked) false ⟨#[], #[.agg #[.int .i64 0, .int .i64 0, .float .f64 0, .string ⟨#[]⟩, .slice none 0 0, .slice none 0 0], .agg #[.int .i64 0, .int .i64 0, .float .f64 0, .string ⟨#[]⟩, .slice none 0 0, .slice none 0 0], .int .i64 0], []⟩ 8 (by kernel_rfl) (by kernel_rfl) (by kernel_rfl) (by kernel_rfl)) ?_
  · intro t ht
    rw [show Try.f7.params.toList = [26, 26, 3] from rfl] at ht
    simp only [List.mem_cons, List.not_mem_nil, or_false] at ht
    rcases ht with rfl | rfl | rfl
    all_goals exact ⟨by kernel_rfl, of_decide_eq_true (by kernel_rfl)⟩
  · intro ds hd
    match ds, hd with
    | [d1, d2, d3], _ => rfl
  · intro W base args ds ps hval hA hsz
    rw [Try.params7] at hA hval hsz
    obtain ⟨v1, v2, v3, e1, e2, e3, q1, q2, q3, rfl, rfl, rfl, h1, h2, h3⟩ := trodAll_three hA
    obtain ⟨rv1, hrv1⟩ := open_Value h1 (hsz.part 0 rfl rfl)
    obtain ⟨cs1, rfl, hcs1⟩ := agg_of_len hrv1.len
    rw [hcs1] at hrv1
    obtain ⟨rv2, hrv2⟩ := open_Value h2 (hsz.part 1 rfl rfl)
    obtain ⟨cs2, rfl, hcs2⟩ := agg_of_len hrv2.len
    rw [hcs2] at hrv2
    obtain ⟨n3, rfl, rfl, rfl, wn3⟩ := open_int Try.underlying3 (hval 2 3 v3 rfl rfl) h3
    have hn3 : okInt n3 := okInt_of_wf wn3
    exact zipFirstLaw rv1 rv2 n3 W cs1 cs2 hn3 hrv1 hrv2

theorem fnZipFirst_holds : Rows.FnZipFirstSaid :=
  OpenClaim.holds_of_wide 7 Try.f7 rfl rfl rfl rfl rfl rfl rfl ⟨rfl, rfl, rfl, rfl, rfl⟩ rfl rfl rfl rfl rfl (by kernel_rfl) Try.func7 (by kernel_rfl)
    (of_decide_eq_true (by kernel_rfl)) (by unfold Func.isWrapper; rw [if_neg (of_decide_eq_false (by kernel_rfl))]; exact ⟨rfl, rfl⟩)
    (fun os started H enc _ => fnZipFirst_lifted os started H enc)

end Go.Proofs.Ytekaainjpddklaa
