/-
 What is proved: the law FnManagersEqualInAnyOrder answers true for every input of bulk at most 1048576, and leaves its arguments as they were. Condition: that bulk (the statement's second form).
-/
import Derived.Test.YtbicoknghdgahaaGreatSA09
set_option linter.unusedVariables false
set_option linter.unusedSimpArgs false
namespace Go.Proofs.YtbicoknghdgahaaGreat
open Go.ChangeShapes Go.WideShapes Go.ChangeAt Go.RowKit

theorem Try.ownK : ownKnob Tryz.prog.godebug = none := by kernel_rfl
theorem Try.laidK : laidOutB Tryz.prog = true := by kernel_rfl

set_option maxRecDepth 100000 in
theorem fnManagersEqualInAnyOrder_lifted (os : Os) (started : os.Started) (H : Type) (enc : TypeId × Value → H) (F : Stop.Interp) :
  ReturnsInHanded {} Tryz.checked os 7 .any ((Rows.OpenSpec.upto Rows.fnManagersEqualInAnyOrderSpec).pre6 enc Tryz.prog Tryz.f7 Rows.fnManagersEqualInAnyOrderUptoRow.domain false) (((Rows.OpenSpec.upto Rows.fnManagersEqualInAnyOrderSpec).at F).post enc Tryz.prog Tryz.f7 false true false false) := by
 refine lift_true_up started Try.ownK Try.laidK (by kernel_rfl) Tryz.func7 ?_ rfl rfl ?_
  (OpenSpec.witness (enc := enc) (C := Tryz.checked) (s := Rows.OpenSpec.upto Rows.fnManagersEqualInAnyOrderSpec) (k := Rows.uptoSmall) rfl false ⟨#[], #[.slice none 0 0, .int .i64 0], []⟩ 8 (by kernel_rfl) (by kernel_rfl) (by kernel_rfl)
   (x := ([.nil, .lit (.int .i64 0)], [], [])) (by kernel_rfl) rfl (by kernel_rfl)) ?_
 ·intro t ht
  rw [show Tryz.f7.params.toList = [47, 3] from rfl] at ht
  simp only [List.mem_cons, List.not_mem_nil, or_false] at ht
  rcases ht with rfl | rfl
  all_goals exact ⟨by kernel_rfl, of_decide_eq_true (by kernel_rfl)⟩
 ·intro ds hd
  match ds, hd with
  | [d1, d2], _ => rfl
 ·intro W base args ds ps hval hA hsz hbk
  rw [Tryz.params7] at hA hval hsz
  obtain ⟨v1, v2, e1, e2, q1, q2, rfl, rfl, rfl, h1, h2⟩ := trodAll_two hA
  obtain ⟨PA1, pl1, pc1, rfl, hp1, hl1, hs1⟩ := open_Managers h1 (hsz.part 0 rfl rfl) (hval 0 47 v1 rfl rfl)
  have hb1 : Rows.uptoBulk e1 ≤ 1048576 := by simp only [Rows.uptoBulkAll] at hbk; omega
  obtain ⟨n2, rfl, rfl, rfl, wn2⟩ := open_int Tryz.underlying3 (hval 1 3 v2 rfl rfl) h2
  have hn2 : okInt n2 := okInt_of_wf wn2
  exact managersLaw hp1 hn2 (by omega) fun m hm => by
   obtain ⟨a, b, c⟩ := hs1 m hm
   exact ⟨by unfold R47; omega, by omega, by omega⟩

set_option maxHeartbeats 4000000 in
theorem fnManagersEqualInAnyOrder_joined : joinedFacts Tryz.prog 7 Tryz.f7 (Rows.OpenSpec.upto Rows.fnManagersEqualInAnyOrderSpec).bare Rows.fnManagersEqualInAnyOrderUptoRow = true := by
 unfold joinedFacts
 simp only [Bool.and_eq_true]
 repeat' apply And.intro
 all_goals as_aux_lemma => kernel_rfl

theorem fnManagersEqualInAnyOrder_holds : Rows.FnManagersEqualInAnyOrderUptoSaid :=
 OpenClaim.holds_of_cond 7 Tryz.f7 rfl rfl rfl rfl rfl rfl rfl ⟨rfl, rfl, rfl, rfl, rfl⟩ rfl rfl rfl rfl rfl (by kernel_rfl) Tryz.func7 fnManagersEqualInAnyOrder_joined
  (of_decide_eq_true (by kernel_rfl)) (by unfold Func.isWrapper; rw [if_neg (of_decide_eq_false (by kernel_rfl))]; exact ⟨rfl, rfl⟩)
  (fun os started H enc _ F => fnManagersEqualInAnyOrder_lifted os started H enc F)

end Go.Proofs.YtbicoknghdgahaaGreat
