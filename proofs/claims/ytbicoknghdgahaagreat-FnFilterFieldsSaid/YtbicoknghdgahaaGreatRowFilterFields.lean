/-
 What is proved: the law FnFilterFields answers true for every input, and leaves its arguments as they were. No condition.
-/
import Derived.Test.YtbicoknghdgahaaGreatRA12
set_option linter.unusedVariables false
set_option linter.unusedSimpArgs false
namespace Go.Proofs.YtbicoknghdgahaaGreat
open Go.ChangeShapes Go.WideShapes Go.ChangeAt Go.RowKit
theorem Try.ownK:ownKnob Tryz.prog.godebug=none:=by kernel_rfl
theorem Try.laidK:laidOutB Tryz.prog=true:=by kernel_rfl
set_option maxRecDepth 100000 in
theorem fnFilterFields_lifted (os:Os) (started:os.Started) (H:Type) (enc:TypeId × Value→H) :
  ReturnsInHanded {} Tryz.checked os 13 .any (Rows.fnFilterFieldsSpec.pre6 enc Tryz.prog Tryz.f13 Rows.fnFilterFieldsRow.domain false) (Rows.fnFilterFieldsSpec.post enc Tryz.prog Tryz.f13 false true false false):=by
 refine lift_true started Try.ownK Try.laidK (by kernel_rfl) Tryz.func13 ?_ rfl rfl ?_
  (ChangeSpec.witness6 (enc:=enc) (C:=Tryz.checked) false ⟨#[],#[.slice none 0 0,.slice none 0 0],[]⟩ 8 (by kernel_rfl) (by kernel_rfl) (by kernel_rfl) (by kernel_rfl)) ?_
 ·intro t ht
  rw[show Tryz.f13.params.toList=[36,22] from rfl] at ht
  simp only[List.mem_cons,List.not_mem_nil,or_false] at ht
  rcases ht with rfl | rfl
  all_goals exact⟨by kernel_rfl,of_decide_eq_true (by kernel_rfl)⟩
 ·intro ds hd
  match ds,hd with
  | [d1,d2],_=>rfl
 ·intro W base args ds ps hval hA hsz
  rw[Tryz.params13] at hA hval hsz
  obtain⟨v1,v2,e1,e2,q1,q2,rfl,rfl,rfl,h1,h2⟩:=trodAll_two hA
  obtain⟨PA1,pl1,pc1,rfl,hp1⟩:=open_Paths h1 (hsz.part 0 rfl rfl) (hval 0 36 v1 rfl rfl)
  obtain⟨PA2,pl2,pc2,rfl,hp2⟩:=open_Path h2 (hsz.part 1 rfl rfl) (hval 1 22 v2 rfl rfl)
  exact ffLaw hp1 hp2
set_option maxHeartbeats 4000000 in
theorem fnFilterFields_joined:joinedFacts Tryz.prog 13 Tryz.f13 Rows.fnFilterFieldsSpec Rows.fnFilterFieldsRow=true:=by
 unfold joinedFacts
 simp only[Bool.and_eq_true]
 repeat' apply And.intro
 all_goals as_aux_lemma=>kernel_rfl
theorem fnFilterFields_holds:Rows.FnFilterFieldsSaid:=
 OpenClaim.holds_of_wide 13 Tryz.f13 rfl rfl rfl rfl rfl rfl rfl ⟨rfl,rfl,rfl,rfl,rfl⟩ rfl rfl rfl rfl rfl (by kernel_rfl) Tryz.func13 fnFilterFields_joined
  (of_decide_eq_true (by kernel_rfl)) (by unfold Func.isWrapper;rw[if_neg (of_decide_eq_false (by kernel_rfl))];exact⟨rfl,rfl⟩)
  (fun os started H enc _=>fnFilterFields_lifted os started H enc)
end Go.Proofs.YtbicoknghdgahaaGreat
