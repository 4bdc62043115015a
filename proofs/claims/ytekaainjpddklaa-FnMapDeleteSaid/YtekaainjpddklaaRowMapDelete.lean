/-
  What is proved: the law FnMapDelete answers true for every input, and leaves its arguments as they were. No condition.
-/
import Derived.Test.YtekaainjpddklaaLawMapDelete
import Derived.Test.YtekaainjpddklaaRow
import Derived.ChangeMaps5
set_option linter.unusedVariables false
set_option linter.unusedSimpArgs false
namespace Go.Proofs.Ytekaainjpddklaa
open Go.ChangeShapes Go.WideShapes Go.ChangeAt Go.RowKit

theorem Try.ownK : ownKnob Try.prog.godebug = none := by kernel_rfl
theorem Try.laidK : laidOutB Try.prog = true := by kernel_rfl

theorem agg_of_len {v : Value} (h : v.cells.toList.length = 6) : ∃ cs : List Value, v = .agg cs.toArray ∧ v.cells.toList = cs := by
  cases v
  case agg vs => exact ⟨vs.toList, by simp, rfl⟩
  all_goals simp [Value.cells] at h

set_option maxRecDepth 100000 in
theorem fnMapDelete_lifted (os : Os) (started : os.Started) (H : Type) (enc : TypeId × Value → H) :
    ReturnsInHanded {} Try.checked os 8 .any (Rows.fnMapDeleteSpec.pre6 enc Try.prog Try.f8 Rows.fnMapDeleteRow.domain false) (Rows.fnMapDeleteSpec.post enc Try.prog Try.f8 false true false false) := by
  refine lift_true started Try.ownK Try.laidK (by kernel_rfl) Try.func8 ?_ rfl rfl ?_
    (ChangeSpec.witness6 (enc := enc) (C := Try.checked) false ⟨#[], #[.agg #[.int .i64 0, .int .i64 0, .float .f64 0, .string ⟨#[]⟩, .slice none 0 0, .slice none 0 0], .string ⟨#[]⟩, .string ⟨#[]⟩], []⟩ 8 (by kernel_rfl) (by kernel_rfl) (by kernel_rfl) (by kernel_rfl)) ?_
  · intro t ht
    rw [show Try.f8.params.toList = [26, 9, 9] from rfl] at ht
    simp only [List.mem_cons, List.not_mem_nil, or_false] at ht
    rcases ht with rfl | rfl | rfl
    all_goals exact ⟨by kernel_rfl, of_decide_eq_true (by kernel_rfl)⟩
  · intro ds hd
    match ds, hd with
    | [d1, d2, d3], _ => rfl
  · intro W base args ds ps hval hA hsz
    rw [Try.params8] at hA hval hsz
    obtain ⟨v1, v2, v3, e1, e2, e3, q1, q2, q3, rfl, rfl, rfl, h1, h2, h3⟩ := trodAll_three hA
    obtain ⟨rv1, hrv1⟩ := open_Value h1 (hsz.part 0 rfl rfl)
    obtain ⟨cs1, rfl, hcs1⟩ := agg_of_len hrv1.len
    rw [hcs1] at hrv1
    obtain ⟨s2, rfl, rfl, rfl, -⟩ := Go.ChangeMaps.open_string Try.underlying9 (hval 1 9 v2 rfl rfl) h2
    have hs2 : s2.size ≤ R47 := (hsz.part 1 rfl rfl).str
    obtain ⟨s3, rfl, rfl, rfl, -⟩ := Go.ChangeMaps.open_string Try.underlying9 (hval 2 9 v3 rfl rfl) h3
    have hs3 : s3.size ≤ R47 := (hsz.part 2 rfl rfl).str
    exact mapDeleteLaw rv1 s2 s3 W cs1 hs2 hs3 hrv1

theorem fnMapDelete_holds : Rows.FnMapDeleteSaid :=
  OpenClaim.holds_of_wide 8 Try.f8 rfl rfl rfl rfl rfl rfl rfl ⟨rfl, rfl, rfl, rfl, rfl⟩ rfl rfl rfl rfl rfl (by kernel_rfl) Try.func8 (by kernel_rfl)
    (of_decide_eq_true (by kernel_rfl)) (by unfold Func.isWrapper; rw [if_neg (of_decide_eq_false (by kernel_rfl))]; exact ⟨rfl, rfl⟩)
    (fun os started H enc _ => fnMapDelete_lifted os started H enc)

end Go.Proofs.Ytekaainjpddklaa
