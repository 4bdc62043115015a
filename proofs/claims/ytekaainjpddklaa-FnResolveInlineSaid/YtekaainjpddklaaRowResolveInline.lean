/-
  What is proved: the law FnResolveInline answers true for every input, and leaves its arguments as they were. No condition.
-/
import Derived.Test.YtekaainjpddklaaLawResolve
import Derived.Test.YtekaainjpddklaaRowS
set_option linter.unusedVariables false
set_option linter.unusedSimpArgs false

namespace Go.Proofs.Ytekaainjpddklaa
open Go.ChangeShapes Go.WideShapes Go.ChangeAt Go.RowKit

theorem Try.ownK : ownKnob Try.prog.godebug = none := by kernel_rfl
theorem Try.laidK : laidOutB Try.prog = true := by kernel_rfl

theorem agg_of_len {v : Value} (h : v.cells.toList.length = 6) : ∃ cs : List Value, v = .agg cs.toArray ∧ v.cells.toList = cs := by
  cases v
  case agg vs => exact ⟨vs.toList, by simp, rfl⟩
  all_goals simp [Value.cells] at h

set_option maxRecDepth 100000 in
theorem fnResolveInline_lifted (os : Os) (started : os.Started) (H : Type) (enc : TypeId × Value → H) :
    ReturnsInHanded {} Try.checked os 6 .any (Rows.fnResolveInlineSpec.pre6 enc Try.prog Try.f6 Rows.fnResolveInlineRow.domain false) (Rows.fnResolveInlineSpec.post enc Try.prog Try.f6 false true false false) := by
  refine lift_true started Try.ownK Try.laidK (by kernel_rfl) Try.func6 ?_ rfl rfl ?_
    (ChangeSpec.witness6 (enc := enc) (C := Try.checked) false ⟨#[], #[.agg #[.slice none 0 0], .agg #[.string ⟨#[]⟩, .slice none 0 0, .slice none 0 0]], []⟩ 8 (by kernel_rfl) (by kernel_rfl) (by kernel_rfl) (by kernel_rfl)) ?_
  · intro t ht
    rw [show Try.f6.params.toList = [33, 38] from rfl] at ht
    simp only [List.mem_cons, List.not_mem_nil, or_false] at ht
    rcases ht with rfl | rfl
    all_goals exact ⟨by kernel_rfl, of_decide_eq_true (by kernel_rfl)⟩
  · intro ds hd
    match ds, hd with
    | [d1, d2], _ => rfl
  · intro W base args ds ps hval hA hsz
    rw [Try.params6] at hA hval hsz
    obtain ⟨v1, v2, e1, e2, q1, q2, rfl, rfl, rfl, h1, h2⟩ := trodAll_two hA
    obtain ⟨ts1, TA1, tc1, rfl, hts1⟩ := open_Schema h1 (hsz.part 0 rfl rfl) (hval 0 33 v1 rfl rfl)
    obtain ⟨sa2, cs2, rfl, hsa2⟩ := open_Atom h2 (hsz.part 1 rfl rfl)
    exact resolveLaw hts1 hsa2

theorem fnResolveInline_holds : Rows.FnResolveInlineSaid :=
  OpenClaim.holds_of_wide 6 Try.f6 rfl rfl rfl rfl rfl rfl rfl ⟨rfl, rfl, rfl, rfl, rfl⟩ rfl rfl rfl rfl rfl (by kernel_rfl) Try.func6 (by kernel_rfl)
    (of_decide_eq_true (by kernel_rfl)) (by unfold Func.isWrapper; rw [if_neg (of_decide_eq_false (by kernel_rfl))]; exact ⟨rfl, rfl⟩)
    (fun os started H enc _ => fnResolveInline_lifted os started H enc)

end Go.Proofs.Ytekaainjpddklaa
