/- Parts: EqB. -/
import Derived.Test.YtbicoknghdgahaaGreatKB04
set_option linter.unusedVariables false
set_option linter.unusedSimpArgs false
namespace Go.Proofs.YtbicoknghdgahaaGreat
open Go.RowKit
attribute [local go_sem] run_store_float run_load_k meth_IsNull meth_IsFloat meth_IsInt meth_IsString meth_IsBool meth_IsList meth_IsMap meth_AsFloat meth_AsInt meth_AsString meth_AsBool

attribute [local go_sem] T.isNull T.isFlt T.isInt T.isStr T.isBool T.isList T.isMap

set_option maxRecDepth 100000 in
set_option maxHeartbeats 4000000 in
theorem equalsList (l : List T) {F G : Nat → Prop} {t : T} {v1 v2 : Value} {w : World} (hne : t.isList = false) (pa : Addr) (h1 : ValAt F w (.list l) v1) (h2 : ValAt G w t v2) (hF : ∀ b, F b → b < w.heap.size) (hG : ∀ b, G b → b < w.heap.size) :
  Calls Tryz.prog 199 #[.iface 303 (.pointer (some pa)), v1, v2] w (EqPost (T.eqv (.list l) t) w) := by
 obtain ⟨p, u, rfl, hp, hB, hu⟩ := h1
 obtain ⟨q, v, rfl, hq, hC, hv⟩ := h2
 have hpl := hF p hp
 have hql := hG q hq
 have hc := hB.cell 0
 have hd := hC.cell 0
 simp at hc hd
 clear hB hC hF hG hp hq
 have hst : St2 w p q u v w := ⟨hc, hd, Below.refl _ _⟩
 obtain ⟨c, hcv⟩ : ∃ c, T.eqv (.list l) t = c := ⟨_, rfl⟩
 rw [hcv]
 have Hc := hide hcv
 clear hcv
 have Hu := hide hu
 have Hv := hide hv
 clear hv
 cases hu
 go_enter_defers Tryz.func199, Tryz.ntmps199
 go_wp2_with fail
 refine (St2.call hst hpl hql (IsFloat_calls Hu.out _)).mono ?_
 rintro e w1 ⟨rfl, hst⟩
 have hc := hst.1
 have hd := hst.2.1
 go_wp2_with fail
 refine (St2.call hst hpl hql (IsFloat_calls Hv.out _)).mono ?_
 rintro e w1 ⟨rfl, hst⟩
 have hc := hst.1
 have hd := hst.2.1
 cases hxflt : t.isFlt
 rotate_left
 ·skip
  obtain ⟨f', rfl, rfl⟩ := form_flt Hv.out hxflt
  go_wp2_with fail
  refine (St2.call hst hpl hql (IsFloat_calls Hu.out _)).mono ?_
  rintro e w1 ⟨rfl, hst⟩
  have hc := hst.1
  have hd := hst.2.1
  go_wp2_with fail
  refine (St2.call hst hpl hql (IsInt_calls Hu.out _)).mono ?_
  rintro e w1 ⟨rfl, hst⟩
  have hc := hst.1
  have hd := hst.2.1
  go_wp2_with fail
  have hcv := Hc.out
  have hz : T.eqv (.list l) (.flt f') = false := by first | (simp [T.eqv]; done) 
  rw [hz] at hcv
  subst hcv
  exact ⟨_, results_tmp rfl _ _ _, rfl, hst.2.2⟩
 go_wp2_with fail
 refine (St2.call hst hpl hql (IsInt_calls Hu.out _)).mono ?_
 rintro e w1 ⟨rfl, hst⟩
 have hc := hst.1
 have hd := hst.2.1
 go_wp2_with fail
 refine (St2.call hst hpl hql (IsInt_calls Hv.out _)).mono ?_
 rintro e w1 ⟨rfl, hst⟩
 have hc := hst.1
 have hd := hst.2.1
 cases hxint : t.isInt
 rotate_left
 ·skip
  go_wp2_with fail
  have hcv := Hc.out
  have hz : T.eqv (.list l) t = false := by cases t <;> first | (simp [T.eqv]; done) | (simp [T.isInt] at hxint; done)
  rw [hz] at hcv
  subst hcv
  exact ⟨_, results_tmp rfl _ _ _, rfl, hst.2.2⟩
 go_wp2_with fail
 refine (St2.call hst hpl hql (IsString_calls Hu.out _)).mono ?_
 rintro e w1 ⟨rfl, hst⟩
 have hc := hst.1
 have hd := hst.2.1
 go_wp2_with fail
 refine (St2.call hst hpl hql (IsString_calls Hv.out _)).mono ?_
 rintro e w1 ⟨rfl, hst⟩
 have hc := hst.1
 have hd := hst.2.1
 cases hxstr : t.isStr
 rotate_left
 ·skip
  go_wp2_with fail
  have hcv := Hc.out
  have hz : T.eqv (.list l) t = false := by cases t <;> first | (simp [T.eqv]; done) | (simp [T.isStr] at hxstr; done)
  rw [hz] at hcv
  subst hcv
  exact ⟨_, results_tmp rfl _ _ _, rfl, hst.2.2⟩
 go_wp2_with fail
 refine (St2.call hst hpl hql (IsBool_calls Hu.out _)).mono ?_
 rintro e w1 ⟨rfl, hst⟩
 have hc := hst.1
 have hd := hst.2.1
 go_wp2_with fail
 refine (St2.call hst hpl hql (IsBool_calls Hv.out _)).mono ?_
 rintro e w1 ⟨rfl, hst⟩
 have hc := hst.1
 have hd := hst.2.1
 cases hxbool : t.isBool
 rotate_left
 ·skip
  go_wp2_with fail
  have hcv := Hc.out
  have hz : T.eqv (.list l) t = false := by cases t <;> first | (simp [T.eqv]; done) | (simp [T.isBool] at hxbool; done)
  rw [hz] at hcv
  subst hcv
  exact ⟨_, results_tmp rfl _ _ _, rfl, hst.2.2⟩
 go_wp2_with fail
 refine (St2.call hst hpl hql (IsList_calls Hu.out _)).mono ?_
 rintro e w1 ⟨rfl, hst⟩
 have hc := hst.1
 have hd := hst.2.1
 go_wp2_with fail
 refine (St2.call hst hpl hql (IsList_calls Hv.out _)).mono ?_
 rintro e w1 ⟨rfl, hst⟩
 have hc := hst.1
 have hd := hst.2.1
 cases hxlist : t.isList
 rotate_left
 ·rw [hxlist] at hne; cases hne
 go_wp2_with fail
 have hcv := Hc.out
 have hz : T.eqv (.list l) t = false := by cases t <;> first | (simp [T.eqv]; done) | (simp [T.isFlt] at hxflt; done) | (simp [T.isInt] at hxint; done) | (simp [T.isStr] at hxstr; done) | (simp [T.isBool] at hxbool; done) | (simp [T.isList] at hxlist; done)
 rw [hz] at hcv
 subst hcv
 exact ⟨_, results_tmp rfl _ _ _, rfl, hst.2.2⟩

end Go.Proofs.YtbicoknghdgahaaGreat

namespace Go.Proofs.YtbicoknghdgahaaGreat
open Go.RowKit
attribute [local go_sem] run_store_float run_load_k meth_IsNull meth_IsFloat meth_IsInt meth_IsString meth_IsBool meth_IsList meth_IsMap meth_AsFloat meth_AsInt meth_AsString meth_AsBool

attribute [local go_sem] T.isNull T.isFlt T.isInt T.isStr T.isBool T.isList T.isMap

set_option maxRecDepth 100000 in
set_option maxHeartbeats 4000000 in
theorem equalsMap (m : List (ByteArray × T)) {F G : Nat → Prop} {t : T} {v1 v2 : Value} {w : World} (hne : t.isMap = false) (pa : Addr) (h1 : ValAt F w (.map m) v1) (h2 : ValAt G w t v2) (hF : ∀ b, F b → b < w.heap.size) (hG : ∀ b, G b → b < w.heap.size) :
  Calls Tryz.prog 199 #[.iface 303 (.pointer (some pa)), v1, v2] w (EqPost (T.eqv (.map m) t) w) := by
 obtain ⟨p, u, rfl, hp, hB, hu⟩ := h1
 obtain ⟨q, v, rfl, hq, hC, hv⟩ := h2
 have hpl := hF p hp
 have hql := hG q hq
 have hc := hB.cell 0
 have hd := hC.cell 0
 simp at hc hd
 clear hB hC hF hG hp hq
 have hst : St2 w p q u v w := ⟨hc, hd, Below.refl _ _⟩
 obtain ⟨c, hcv⟩ : ∃ c, T.eqv (.map m) t = c := ⟨_, rfl⟩
 rw [hcv]
 have Hc := hide hcv
 clear hcv
 have Hu := hide hu
 have Hv := hide hv
 clear hv
 cases hu
 go_enter_defers Tryz.func199, Tryz.ntmps199
 go_wp2_with fail
 refine (St2.call hst hpl hql (IsFloat_calls Hu.out _)).mono ?_
 rintro e w1 ⟨rfl, hst⟩
 have hc := hst.1
 have hd := hst.2.1
 go_wp2_with fail
 refine (St2.call hst hpl hql (IsFloat_calls Hv.out _)).mono ?_
 rintro e w1 ⟨rfl, hst⟩
 have hc := hst.1
 have hd := hst.2.1
 cases hxflt : t.isFlt
 rotate_left
 ·skip
  obtain ⟨f', rfl, rfl⟩ := form_flt Hv.out hxflt
  go_wp2_with fail
  refine (St2.call hst hpl hql (IsFloat_calls Hu.out _)).mono ?_
  rintro e w1 ⟨rfl, hst⟩
  have hc := hst.1
  have hd := hst.2.1
  go_wp2_with fail
  refine (St2.call hst hpl hql (IsInt_calls Hu.out _)).mono ?_
  rintro e w1 ⟨rfl, hst⟩
  have hc := hst.1
  have hd := hst.2.1
  go_wp2_with fail
  have hcv := Hc.out
  have hz : T.eqv (.map m) (.flt f') = false := by first | (simp [T.eqv]; done) 
  rw [hz] at hcv
  subst hcv
  exact ⟨_, results_tmp rfl _ _ _, rfl, hst.2.2⟩
 go_wp2_with fail
 refine (St2.call hst hpl hql (IsInt_calls Hu.out _)).mono ?_
 rintro e w1 ⟨rfl, hst⟩
 have hc := hst.1
 have hd := hst.2.1
 go_wp2_with fail
 refine (St2.call hst hpl hql (IsInt_calls Hv.out _)).mono ?_
 rintro e w1 ⟨rfl, hst⟩
 have hc := hst.1
 have hd := hst.2.1
 cases hxint : t.isInt
 rotate_left
 ·skip
  go_wp2_with fail
  have hcv := Hc.out
  have hz : T.eqv (.map m) t = false := by cases t <;> first | (simp [T.eqv]; done) | (simp [T.isInt] at hxint; done)
  rw [hz] at hcv
  subst hcv
  exact ⟨_, results_tmp rfl _ _ _, rfl, hst.2.2⟩
 go_wp2_with fail
 refine (St2.call hst hpl hql (IsString_calls Hu.out _)).mono ?_
 rintro e w1 ⟨rfl, hst⟩
 have hc := hst.1
 have hd := hst.2.1
 go_wp2_with fail
 refine (St2.call hst hpl hql (IsString_calls Hv.out _)).mono ?_
 rintro e w1 ⟨rfl, hst⟩
 have hc := hst.1
 have hd := hst.2.1
 cases hxstr : t.isStr
 rotate_left
 ·skip
  go_wp2_with fail
  have hcv := Hc.out
  have hz : T.eqv (.map m) t = false := by cases t <;> first | (simp [T.eqv]; done) | (simp [T.isStr] at hxstr; done)
  rw [hz] at hcv
  subst hcv
  exact ⟨_, results_tmp rfl _ _ _, rfl, hst.2.2⟩
 go_wp2_with fail
 refine (St2.call hst hpl hql (IsBool_calls Hu.out _)).mono ?_
 rintro e w1 ⟨rfl, hst⟩
 have hc := hst.1
 have hd := hst.2.1
 go_wp2_with fail
 refine (St2.call hst hpl hql (IsBool_calls Hv.out _)).mono ?_
 rintro e w1 ⟨rfl, hst⟩
 have hc := hst.1
 have hd := hst.2.1
 cases hxbool : t.isBool
 rotate_left
 ·skip
  go_wp2_with fail
  have hcv := Hc.out
  have hz : T.eqv (.map m) t = false := by cases t <;> first | (simp [T.eqv]; done) | (simp [T.isBool] at hxbool; done)
  rw [hz] at hcv
  subst hcv
  exact ⟨_, results_tmp rfl _ _ _, rfl, hst.2.2⟩
 go_wp2_with fail
 refine (St2.call hst hpl hql (IsList_calls Hu.out _)).mono ?_
 rintro e w1 ⟨rfl, hst⟩
 have hc := hst.1
 have hd := hst.2.1
 go_wp2_with fail
 refine (St2.call hst hpl hql (IsList_calls Hv.out _)).mono ?_
 rintro e w1 ⟨rfl, hst⟩
 have hc := hst.1
 have hd := hst.2.1
 cases hxlist : t.isList
 rotate_left
 ·skip
  go_wp2_with fail
  have hcv := Hc.out
  have hz : T.eqv (.map m) t = false := by cases t <;> first | (simp [T.eqv]; done) | (simp [T.isList] at hxlist; done)
  rw [hz] at hcv
  subst hcv
  exact ⟨_, results_tmp rfl _ _ _, rfl, hst.2.2⟩
 go_wp2_with fail
 refine (St2.call hst hpl hql (IsMap_calls Hu.out _)).mono ?_
 rintro e w1 ⟨rfl, hst⟩
 have hc := hst.1
 have hd := hst.2.1
 go_wp2_with fail
 refine (St2.call hst hpl hql (IsMap_calls Hv.out _)).mono ?_
 rintro e w1 ⟨rfl, hst⟩
 have hc := hst.1
 have hd := hst.2.1
 cases hxmap : t.isMap
 rotate_left
 ·rw [hxmap] at hne; cases hne
 go_wp2_with fail
 have hcv := Hc.out
 have hz : T.eqv (.map m) t = false := by cases t <;> first | (simp [T.eqv]; done) | (simp [T.isFlt] at hxflt; done) | (simp [T.isInt] at hxint; done) | (simp [T.isStr] at hxstr; done) | (simp [T.isBool] at hxbool; done) | (simp [T.isList] at hxlist; done) | (simp [T.isMap] at hxmap; done)
 rw [hz] at hcv
 subst hcv
 exact ⟨_, results_tmp rfl _ _ _, rfl, hst.2.2⟩

end Go.Proofs.YtbicoknghdgahaaGreat

namespace Go.Proofs.YtbicoknghdgahaaGreat
open Go.RowKit
attribute [local go_sem] run_store_float run_load_k meth_IsNull meth_IsFloat meth_IsInt meth_IsString meth_IsBool meth_IsList meth_IsMap meth_AsFloat meth_AsInt meth_AsString meth_AsBool

attribute [local go_sem] T.isNull T.isFlt T.isInt T.isStr T.isBool T.isList T.isMap

set_option maxRecDepth 100000 in
set_option maxHeartbeats 4000000 in
theorem equalsNull {F G : Nat → Prop} {t : T} {v1 v2 : Value} {w : World} (pa : Addr) (h1 : ValAt F w .null v1) (h2 : ValAt G w t v2) (hF : ∀ b, F b → b < w.heap.size) (hG : ∀ b, G b → b < w.heap.size) :
  Calls Tryz.prog 199 #[.iface 303 (.pointer (some pa)), v1, v2] w (EqPost (T.eqv .null t) w) := by
 obtain ⟨p, u, rfl, hp, hB, hu⟩ := h1
 obtain ⟨q, v, rfl, hq, hC, hv⟩ := h2
 have hpl := hF p hp
 have hql := hG q hq
 have hc := hB.cell 0
 have hd := hC.cell 0
 simp at hc hd
 clear hB hC hF hG hp hq
 have hst : St2 w p q u v w := ⟨hc, hd, Below.refl _ _⟩
 obtain ⟨c, hcv⟩ : ∃ c, T.eqv .null t = c := ⟨_, rfl⟩
 rw [hcv]
 have Hc := hide hcv
 clear hcv
 have Hu := hide hu
 have Hv := hide hv
 clear hv
 cases hu
 go_enter_defers Tryz.func199, Tryz.ntmps199
 go_wp2_with fail
 refine (St2.call hst hpl hql (IsFloat_calls Hu.out _)).mono ?_
 rintro e w1 ⟨rfl, hst⟩
 have hc := hst.1
 have hd := hst.2.1
 go_wp2_with fail
 refine (St2.call hst hpl hql (IsFloat_calls Hv.out _)).mono ?_
 rintro e w1 ⟨rfl, hst⟩
 have hc := hst.1
 have hd := hst.2.1
 cases hxflt : t.isFlt
 rotate_left
 ·skip
  obtain ⟨f', rfl, rfl⟩ := form_flt Hv.out hxflt
  go_wp2_with fail
  refine (St2.call hst hpl hql (IsFloat_calls Hu.out _)).mono ?_
  rintro e w1 ⟨rfl, hst⟩
  have hc := hst.1
  have hd := hst.2.1
  go_wp2_with fail
  refine (St2.call hst hpl hql (IsInt_calls Hu.out _)).mono ?_
  rintro e w1 ⟨rfl, hst⟩
  have hc := hst.1
  have hd := hst.2.1
  go_wp2_with fail
  have hcv := Hc.out
  have hz : T.eqv .null (.flt f') = false := by first | (simp [T.eqv]; done) 
  rw [hz] at hcv
  subst hcv
  exact ⟨_, results_tmp rfl _ _ _, rfl, hst.2.2⟩
 go_wp2_with fail
 refine (St2.call hst hpl hql (IsInt_calls Hu.out _)).mono ?_
 rintro e w1 ⟨rfl, hst⟩
 have hc := hst.1
 have hd := hst.2.1
 go_wp2_with fail
 refine (St2.call hst hpl hql (IsInt_calls Hv.out _)).mono ?_
 rintro e w1 ⟨rfl, hst⟩
 have hc := hst.1
 have hd := hst.2.1
 cases hxint : t.isInt
 rotate_left
 ·skip
  go_wp2_with fail
  have hcv := Hc.out
  have hz : T.eqv .null t = false := by cases t <;> first | (simp [T.eqv]; done) | (simp [T.isInt] at hxint; done)
  rw [hz] at hcv
  subst hcv
  exact ⟨_, results_tmp rfl _ _ _, rfl, hst.2.2⟩
 go_wp2_with fail
 refine (St2.call hst hpl hql (IsString_calls Hu.out _)).mono ?_
 rintro e w1 ⟨rfl, hst⟩
 have hc := hst.1
 have hd := hst.2.1
 go_wp2_with fail
 refine (St2.call hst hpl hql (IsString_calls Hv.out _)).mono ?_
 rintro e w1 ⟨rfl, hst⟩
 have hc := hst.1
 have hd := hst.2.1
 cases hxstr : t.isStr
 rotate_left
 ·skip
  go_wp2_with fail
  have hcv := Hc.out
  have hz : T.eqv .null t = false := by cases t <;> first | (simp [T.eqv]; done) | (simp [T.isStr] at hxstr; done)
  rw [hz] at hcv
  subst hcv
  exact ⟨_, results_tmp rfl _ _ _, rfl, hst.2.2⟩
 go_wp2_with fail
 refine (St2.call hst hpl hql (IsBool_calls Hu.out _)).mono ?_
 rintro e w1 ⟨rfl, hst⟩
 have hc := hst.1
 have hd := hst.2.1
 go_wp2_with fail
 refine (St2.call hst hpl hql (IsBool_calls Hv.out _)).mono ?_
 rintro e w1 ⟨rfl, hst⟩
 have hc := hst.1
 have hd := hst.2.1
 cases hxbool : t.isBool
 rotate_left
 ·skip
  go_wp2_with fail
  have hcv := Hc.out
  have hz : T.eqv .null t = false := by cases t <;> first | (simp [T.eqv]; done) | (simp [T.isBool] at hxbool; done)
  rw [hz] at hcv
  subst hcv
  exact ⟨_, results_tmp rfl _ _ _, rfl, hst.2.2⟩
 go_wp2_with fail
 refine (St2.call hst hpl hql (IsList_calls Hu.out _)).mono ?_
 rintro e w1 ⟨rfl, hst⟩
 have hc := hst.1
 have hd := hst.2.1
 go_wp2_with fail
 refine (St2.call hst hpl hql (IsList_calls Hv.out _)).mono ?_
 rintro e w1 ⟨rfl, hst⟩
 have hc := hst.1
 have hd := hst.2.1
 cases hxlist : t.isList
 rotate_left
 ·skip
  go_wp2_with fail
  have hcv := Hc.out
  have hz : T.eqv .null t = false := by cases t <;> first | (simp [T.eqv]; done) | (simp [T.isList] at hxlist; done)
  rw [hz] at hcv
  subst hcv
  exact ⟨_, results_tmp rfl _ _ _, rfl, hst.2.2⟩
 go_wp2_with fail
 refine (St2.call hst hpl hql (IsMap_calls Hu.out _)).mono ?_
 rintro e w1 ⟨rfl, hst⟩
 have hc := hst.1
 have hd := hst.2.1
 go_wp2_with fail
 refine (St2.call hst hpl hql (IsMap_calls Hv.out _)).mono ?_
 rintro e w1 ⟨rfl, hst⟩
 have hc := hst.1
 have hd := hst.2.1
 cases hxmap : t.isMap
 rotate_left
 ·skip
  go_wp2_with fail
  have hcv := Hc.out
  have hz : T.eqv .null t = false := by cases t <;> first | (simp [T.eqv]; done) | (simp [T.isMap] at hxmap; done)
  rw [hz] at hcv
  subst hcv
  exact ⟨_, results_tmp rfl _ _ _, rfl, hst.2.2⟩
 go_wp2_with fail
 refine (St2.call hst hpl hql (IsNull_calls Hu.out _)).mono ?_
 rintro e w1 ⟨rfl, hst⟩
 have hc := hst.1
 have hd := hst.2.1
 go_wp2_with fail
 refine (St2.call hst hpl hql (IsNull_calls Hv.out _)).mono ?_
 rintro e w1 ⟨rfl, hst⟩
 have hc := hst.1
 have hd := hst.2.1
 cases hxnull : t.isNull
 rotate_left
 ·skip
  have hz : t = .null := by cases t <;> first | rfl | (simp [T.isNull] at hxnull; done)
  subst hz
  go_wp2_with fail
  have hcv := Hc.out
  simp only [T.eqv, toF] at hcv
  subst hcv
  refine ⟨_, results_tmp rfl _ _ _, ?_, hst.2.2⟩
  first | rfl | exact ret_bool (str_eq _ _) | exact ret_bool (by simp [Bool.eq_iff_iff])
 go_wp2_with fail
 have hcv := Hc.out
 have hz : T.eqv .null t = false := by cases t <;> first | (simp [T.eqv]; done) | (simp [T.isFlt] at hxflt; done) | (simp [T.isInt] at hxint; done) | (simp [T.isStr] at hxstr; done) | (simp [T.isBool] at hxbool; done) | (simp [T.isList] at hxlist; done) | (simp [T.isMap] at hxmap; done) | (simp [T.isNull] at hxnull; done)
 rw [hz] at hcv
 subst hcv
 exact ⟨_, results_tmp rfl _ _ _, rfl, hst.2.2⟩

end Go.Proofs.YtbicoknghdgahaaGreat
