/-
  What is proved: the law FnZipEqual answers true for every input, and leaves its arguments as they were. No condition.
-/
import Derived.Test.YtekaainjpddklaaLawZip
import Derived.Test.YtekaainjpddklaaRow
set_option linter.unusedVariables false
set_option linter.unusedSimpArgs false

namespace Go.Proofs.Ytekaainjpddklaa
open Go.ChangeShapes Go.WideShapes Go.ChangeAt Go.RowKit

theorem Try.ownK : ownKnob Try.prog.godebug = none := by kernel_rfl
theorem Try.laidK : laidOutB Try.prog = true := by kernel_rfl

theorem agg_of_len {v : Value} (h : v.cells.toList.length = 6) : ∃ cs : List Value, v = .agg cs.toArray ∧ v.cells.toList = cs := by
  cases v
  case agg vs => exact ⟨vs.toList, by simp, rfl⟩
  all_goals simp [Value.cells] at h

set_option maxRecDepth 100000 in
theorem fnZipEqual_lifted (os : Os) (started : os.Started) (H : Type) (enc : TypeId × Value → H) :
    ReturnsInHanded {} Try.checked os 14 .any (Rows.fnZipEqualSpec.pre6 enc Try.prog Try.f14 Rows.fnZipEqualRow.domain false) (Rows.fnZipEqualSpec.post enc Try.prog Try.f14 false true false false) := by
  refine lift_true started Try.ownK Try.laidK (by kernel_rfl) Try.func14 ?_ rfl rfl ?_
    (ChangeSpec.witness6 (enc := enc) (C := Try.checked) false ⟨#[], #[.agg #[.int .i64 0, .int .i64 0, .float .f64 0, .string ⟨#[]⟩, .slice none 0 0, .slice none 0 0], .agg #[.int .i64 0, .int .i64 0, .float .f64 0, .string ⟨#[]⟩, .slice none 0 0, .slice none 0 0]], []⟩ 8 (by kernel_rfl) (by kernel_rfl) (by kernel_rfl) (by kernel_rfl)) ?_
  · intro t ht
    rw [show Try.f14.params.toList = [26, 26] from rfl] at ht
    simp only [List.mem_cons, List.not_mem_nil, or_false] at ht
    rcases ht with rfl | rfl
    all_goals exact ⟨by kernel_rfl, of_decide_eq_true (by kernel_rfl)⟩
  · intro ds hd
    match ds, hd with
    | [d1, d2], _ => rfl
  · intro W base args ds ps hval hA hsz
    rw [Try.params14] at hA hval hsz
    obtain ⟨v1, v2, e1, e2, q1, q2, rfl, rfl, rfl, h1, h2⟩ := trodAll_two hA
    obtain ⟨rv1, hrv1⟩ := open_Value h1 (hsz.part 0 rfl rfl)
    obtain ⟨cs1, rfl, hcs1⟩ := agg_of_len hrv1.len
    rw [hcs1] at hrv1
    obtain ⟨rv2, hrv2⟩ := open_Value h2 (hsz.part 1 rfl rfl)
    obtain ⟨cs2, rfl, hcs2⟩ := agg_of_len hrv2.len
    rw [hcs2] at hrv2
    exact zipLaw rv1 rv2 W cs1 cs2 hrv1 hrv2

theorem fnZipEqual_holds : Rows.FnZipEqualSaid :=
  OpenClaim.holds_of_wide 14 Try.f14 rfl rfl rfl rfl rfl rfl rfl ⟨rfl, rfl, rfl, rfl, rfl⟩ rfl rfl rfl rfl rfl (by kernel_rfl) Try.func14 (by kernel_rfl)
    (of_decide_eq_true (by kernel_rfl)) (by unfold Func.isWrapper; rw [if_neg (of_decide_eq_false (by kernel_rfl))]; exact ⟨rfl, rfl⟩)
    (fun os started H enc _ => fnZipEqual_lifted os started H enc)

end Go.Proofs.Ytekaainjpddklaa
