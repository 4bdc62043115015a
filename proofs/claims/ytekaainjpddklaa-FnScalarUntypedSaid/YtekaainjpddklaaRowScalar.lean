/-
  What is proved: the law FnScalarUntyped answers true for every value of the thin package, and leaves its argument as it was. No condition.
-/
import Derived.Test.YtekaainjpddklaaLawScalar
import Derived.Test.YtekaainjpddklaaLift
namespace Go.Proofs.Ytekaainjpddklaa
open Go.ChangeShapes Go.WideShapes Go.ChangeAt Go.RowKit

theorem Try.ownK : ownKnob Try.prog.godebug = none := by kernel_rfl
theorem Try.laidK : laidOutB Try.prog = true := by kernel_rfl

theorem agg_of_len {v : Value} (h : v.cells.toList.length = 6) : ∃ cs : List Value, v = .agg cs.toArray ∧ v.cells.toList = cs := by
  cases v
  case agg vs => exact ⟨vs.toList, by simp, rfl⟩
  all_goals simp [Value.cells] at h

set_option maxRecDepth 100000 in
theorem fnScalarUntyped_lifted (os : Os) (started : os.Started) (H : Type) (enc : TypeId × Value → H) :
    ReturnsInHanded {} Try.checked os 3 .any (Rows.fnScalarUntypedSpec.pre6 enc Try.prog Try.f3 Rows.fnScalarUntypedRow.domain false) (Rows.fnScalarUntypedSpec.post enc Try.prog Try.f3 false true false false) := by
  refine lift_true started Try.ownK Try.laidK (by kernel_rfl) Try.func3 ?_ rfl rfl ?_
    (ChangeSpec.witness6 (enc := enc) (C := Try.checked) false ⟨#[], #[.agg #[.int .i64 0, .int .i64 0, .float .f64 0, .string ⟨#[]⟩, .slice none 0 0, .slice none 0 0]], []⟩ 8 (by kernel_rfl) (by kernel_rfl) (by kernel_rfl) (by kernel_rfl)) ?_
  · intro t ht
    rw [show Try.f3.params.toList = [26] from rfl] at ht
    rw [List.mem_singleton.1 ht]
    exact ⟨by kernel_rfl, of_decide_eq_true (by kernel_rfl)⟩
  · intro ds hd
    match ds, hd with
    | [d], _ => rfl
  · intro W base args ds ps hval hA hsz
    rw [Try.params3] at hA hval hsz
    obtain ⟨v, d, rfl, rfl, h0⟩ := trodAll_one hA
    obtain ⟨rv, hrv⟩ := open_Value h0 (hsz.part 0 rfl rfl)
    obtain ⟨cs, rfl, hcs⟩ := agg_of_len hrv.len
    rw [hcs] at hrv
    exact scalarLaw rv W cs hrv

theorem fnScalarUntyped_holds : Rows.FnScalarUntypedSaid :=
  OpenClaim.holds_of_wide 3 Try.f3 rfl rfl rfl rfl rfl rfl rfl ⟨rfl, rfl, rfl, rfl, rfl⟩ rfl rfl rfl rfl rfl (by kernel_rfl) Try.func3 (by kernel_rfl)
    (of_decide_eq_true (by kernel_rfl)) (by unfold Func.isWrapper; rw [if_neg (of_decide_eq_false (by kernel_rfl))]; exact ⟨rfl, rfl⟩)
    (fun os started H enc _ => fnScalarUntyped_lifted os started H enc)

end Go.Proofs.Ytekaainjpddklaa
