/-
  What is proved: the law FnOneFieldMore answers true for every input, and leaves its arguments as they were. No condition.
-/
import Derived.Test.YtekaainjpddklaaLawMore
import Derived.Test.YtekaainjpddklaaRow
import Derived.ChangeMaps5
set_option linter.unusedVariables false
set_option linter.unusedSimpArgs false
namespace Go.Proofs.Ytekaainjpddklaa
open Go.ChangeShapes Go.WideShapes Go.ChangeAt Go.RowKit

theorem Try.ownK : ownKnob Try.prog.godebug = none := by kernel_rfl
theorem Try.laidK : laidOutB Try.prog = true := by kernel_rfl

theorem agg_of_len {v : Value} (h : v.cells.toList.length = 6) : ∃ cs : List Value, v = .agg cs.toArray ∧ v.cells.toList = cs := by
  cases v
  case agg vs => exact ⟨vs.toList, by simp, rfl⟩
  all_goals simp [Value.cells] at h

set_option maxRecDepth 100000 in
theorem fnOneFieldMore_lifted (os : Os) (started : os.Started) (H : Type) (enc : TypeId × Value → H) :
    ReturnsInHanded {} Try.checked os 11 .any (Rows.fnOneFieldMoreSpec.pre6 enc Try.prog Try.f11 Rows.fnOneFieldMoreRow.domain false) (Rows.fnOneFieldMoreSpec.post enc Try.prog Try.f11 false true false false) := by
  refine lift_true started Try.ownK Try.laidK (by kernel_rfl) Try.func11 ?_ rfl rfl ?_
    (ChangeSpec.witness6 (enc := enc) (C := Try.checked) false ⟨#[], #[.agg #[.int .i64 0, .int .i64 0, .float .f64 0, .string ⟨#[]⟩, .slice none 0 0, .slice none 0 0], .string ⟨#[]⟩, .agg #[.int .i64 0, .int .i64 0, .float .f64 0, .string ⟨#[]⟩, .slice none 0 0, .slice none 0 0]], []⟩ 8 (by kernel_rfl) (by kernel_rfl) (by kernel_rfl) (by kernel_rfl)) ?_
  · intro t ht
    rw [show Try.f11.params.toList = [26, 9, 26] from rfl] at ht
    simp only [List.mem_cons, List.not_mem_nil, or_false] at ht
    rcases ht with rfl | rfl | rfl
    all_goals exact ⟨by kernel_rfl, of_decide_eq_true (by kernel_rfl)⟩
  · intro ds hd
    match ds, hd with
    | [d1, d2, d3], _ => rfl
  · intro W base args ds ps hval hA hsz
    rw [Try.params11] at hA hval hsz
    obtain ⟨v1, v2, v3, e1, e2, e3, q1, q2, q3, rfl, rfl, rfl, h1, h2, h3⟩ := trodAll_three hA
    obtain ⟨rv1, hrv1⟩ := open_Value h1 (hsz.part 0 rfl rfl)
    obtain ⟨cs1, rfl, hcs1⟩ := agg_of_len hrv1.len
    rw [hcs1] at hrv1
    obtain ⟨s2, rfl, rfl, rfl, -⟩ := Go.ChangeMaps.open_string Try.underlying9 (hval 1 9 v2 rfl rfl) h2
    have hs2 : s2.size ≤ R47 := (hsz.part 1 rfl rfl).str
    obtain ⟨rv3, hrv3⟩ := open_Value h3 (hsz.part 2 rfl rfl)
    obtain ⟨cs3, rfl, hcs3⟩ := agg_of_len hrv3.len
    rw [hcs3] at hrv3
    exact moreLaw rv1 rv3 s2 W cs1 cs3 hs2 hrv1 hrv3

theorem fnOneFieldMore_holds : Rows.FnOneFieldMoreSaid :=
  OpenClaim.holds_of_wide 11 Try.f11 rfl rfl rfl rfl rfl rfl rfl ⟨rfl, rfl, rfl, rfl, rfl⟩ rfl rfl rfl rfl rfl (by kernel_rfl) Try.func11 (by kernel_rfl)
    (of_decide_eq_true (by kernel_rfl)) (by unfold Func.isWrapper; rw [if_neg (of_decide_eq_false (by kernel_rfl))]; exact ⟨rfl, rfl⟩)
    (fun os started H enc _ => fnOneFieldMore_lifted os started H enc)

end Go.Proofs.Ytekaainjpddklaa
