/-
  What is proved: the law FnCopyFinds answers true for every input, and leaves its arguments as they were. No condition.
-/
import Derived.Test.YtekaainjpddklaaLawCopy
import Derived.Test.YtekaainjpddklaaRowS
import Derived.ChangeMaps5
set_option linter.unusedVariables false
set_option linter.unusedSimpArgs false
namespace Go.Proofs.Ytekaainjpddklaa
open Go.ChangeShapes Go.WideShapes Go.ChangeAt Go.RowKit

theorem Try.ownK : ownKnob Try.prog.godebug = none := by kernel_rfl
theorem Try.laidK : laidOutB Try.prog = true := by kernel_rfl

theorem agg_of_len {v : Value} (h : v.cells.toList.length = 6) : ∃ cs : List Value, v = .agg cs.toArray ∧ v.cells.toList = cs := by
  cases v
  case agg vs => exact ⟨vs.toList, by simp, rfl⟩
  all_goals simp [Value.cells] at h

set_option maxRecDepth 100000 in
theorem fnCopyFinds_lifted (os : Os) (started : os.Started) (H : Type) (enc : TypeId × Value → H) :
    ReturnsInHanded {} Try.checked os 5 .any (Rows.fnCopyFindsSpec.pre6 enc Try.prog Try.f5 Rows.fnCopyFindsRow.domain false) (Rows.fnCopyFindsSpec.post enc Try.prog Try.f5 false true false false) := by
  refine lift_true started Try.ownK Try.laidK (by kernel_rfl) Try.func5 ?_ rfl rfl ?_
    (ChangeSpec.witness6 (enc := enc) (C := Try.checked) false ⟨#[], #[.agg #[.slice none 0 0], .agg #[.slice none 0 0], .string ⟨#[]⟩], []⟩ 8 (by kernel_rfl) (by kernel_rfl) (by kernel_rfl) (by kernel_rfl)) ?_
  · intro t ht
    rw [show Try.f5.params.toList = [33, 33, 9] from rfl] at ht
    simp only [List.mem_cons, List.not_mem_nil, or_false] at ht
    rcases ht with rfl | rfl | rfl
    all_goals exact ⟨by kernel_rfl, of_decide_eq_true (by kernel_rfl)⟩
  · intro ds hd
    match ds, hd with
    | [d1, d2, d3], _ => rfl
  · intro W base args ds ps hval hA hsz
    rw [Try.params5] at hA hval hsz
    obtain ⟨v1, v2, v3, e1, e2, e3, q1, q2, q3, rfl, rfl, rfl, h1, h2, h3⟩ := trodAll_three hA
    obtain ⟨ts1, TA1, tc1, rfl, hts1⟩ := open_Schema h1 (hsz.part 0 rfl rfl) (hval 0 33 v1 rfl rfl)
    obtain ⟨ts2, TA2, tc2, rfl, hts2⟩ := open_Schema h2 (hsz.part 1 rfl rfl) (hval 1 33 v2 rfl rfl)
    obtain ⟨s3, rfl, rfl, rfl, -⟩ := Go.ChangeMaps.open_string Try.underlying9 (hval 2 9 v3 rfl rfl) h3
    have hs3 : s3.size ≤ R47 := (hsz.part 2 rfl rfl).str
    exact copyLaw hts1 hts2 hs3

theorem fnCopyFinds_holds : Rows.FnCopyFindsSaid :=
  OpenClaim.holds_of_wide 5 Try.f5 rfl rfl rfl rfl rfl rfl rfl ⟨rfl, rfl, rfl, rfl, rfl⟩ rfl rfl rfl rfl rfl (by kernel_rfl) Try.func5 (by kernel_rfl)
    (of_decide_eq_true (by kernel_rfl)) (by unfold Func.isWrapper; rw [if_neg (of_decide_eq_false (by kernel_rfl))]; exact ⟨rfl, rfl⟩)
    (fun os started H enc _ => fnCopyFinds_lifted os started H enc)

end Go.Proofs.Ytekaainjpddklaa
