/- Parts: CmpA, CmpB. -/
import Derived.Test.YtbicoknghdgahaaGreatKA04
set_option linter.unusedVariables false
set_option linter.unusedSimpArgs false
namespace Go.Proofs.YtbicoknghdgahaaGreat
open Go.RowKit
attribute [local go_sem] run_store_float run_load_k meth_IsNull meth_IsFloat meth_IsInt meth_IsString meth_IsBool meth_IsList meth_IsMap meth_AsFloat meth_AsInt meth_AsString meth_AsBool

attribute [local go_sem] T.isNull T.isFlt T.isInt T.isStr T.isBool T.isList T.isMap

set_option maxRecDepth 100000 in
set_option maxHeartbeats 4000000 in
theorem compareFlt (f : Nat) {F G : Nat → Prop} {t : T} {v1 v2 : Value} {w : World} (pa : Addr) (h1 : ValAt F w (.flt f) v1) (h2 : ValAt G w t v2) (hF : ∀ b, F b → b < w.heap.size) (hG : ∀ b, G b → b < w.heap.size) :
  Calls Tryz.prog 209 #[.iface 303 (.pointer (some pa)), v1, v2] w (CmpPost (T.cmp (.flt f) t) w) := by
 obtain ⟨p, u, rfl, hp, hB, hu⟩ := h1
 obtain ⟨q, v, rfl, hq, hC, hv⟩ := h2
 have hpl := hF p hp
 have hql := hG q hq
 have hc := hB.cell 0
 have hd := hC.cell 0
 simp at hc hd
 clear hB hC hF hG hp hq
 have hst : St2 w p q u v w := ⟨hc, hd, Below.refl _ _⟩
 obtain ⟨c, hcv⟩ : ∃ c, T.cmp (.flt f) t = c := ⟨_, rfl⟩
 rw [hcv]
 have Hc := hide hcv
 clear hcv
 have Hu := hide hu
 have Hv := hide hv
 clear hv
 cases hu
 go_enter_defers Tryz.func209, Tryz.ntmps209
 go_wp2_with fail
 refine (St2.call hst hpl hql (IsFloat_calls Hu.out _)).mono ?_
 rintro e w1 ⟨rfl, hst⟩
 have hc := hst.1
 have hd := hst.2.1
 go_wp2_with fail
 refine (St2.call hst hpl hql (IsFloat_calls Hv.out _)).mono ?_
 rintro e w1 ⟨rfl, hst⟩
 have hc := hst.1
 have hd := hst.2.1
 cases hxflt : t.isFlt
 rotate_left
 ·obtain ⟨f', rfl, rfl⟩ := form_flt Hv.out hxflt
  go_wp2_with fail
  refine (St2.call hst hpl hql (AsFloat_calls _ _)).mono ?_
  rintro e w1 ⟨rfl, hst⟩
  have hc := hst.1
  have hd := hst.2.1
  go_wp2_with fail
  refine (St2.call hst hpl hql (AsFloat_calls _ _)).mono ?_
  rintro e w1 ⟨rfl, hst⟩
  have hc := hst.1
  have hd := hst.2.1
  go_wp2_with fail
  refine (floatCompare_calls _ _ _).mono ?_
  rintro e w' ⟨rfl, rfl⟩
  go_wp2_with fail
  have hcv := Hc.out
  simp only [T.cmp, toF] at hcv
  subst hcv
  exact ⟨_, results_tmp rfl _ _ _, rfl, hst.2.2⟩
 go_wp2_with fail
 refine (St2.call hst hpl hql (IsInt_calls Hv.out _)).mono ?_
 rintro e w1 ⟨rfl, hst⟩
 have hc := hst.1
 have hd := hst.2.1
 cases hxint : t.isInt
 rotate_left
 ·obtain ⟨n', rfl, rfl⟩ := form_int Hv.out hxint
  go_wp2_with fail
  refine (St2.call hst hpl hql (AsFloat_calls _ _)).mono ?_
  rintro e w1 ⟨rfl, hst⟩
  have hc := hst.1
  have hd := hst.2.1
  go_wp2_with fail
  refine (St2.call hst hpl hql (AsInt_calls _ _)).mono ?_
  rintro e w1 ⟨rfl, hst⟩
  have hc := hst.1
  have hd := hst.2.1
  go_wp2_with fail
  refine (floatCompare_calls _ _ _).mono ?_
  rintro e w' ⟨rfl, rfl⟩
  go_wp2_with fail
  have hcv := Hc.out
  simp only [T.cmp, toF] at hcv
  subst hcv
  exact ⟨_, results_tmp rfl _ _ _, rfl, hst.2.2⟩
 go_wp2_with fail
 have hcv := Hc.out
 rw [cmp_lt (by cases t <;> first | (simp [T.ord]; done) | (simp [T.isFlt] at hxflt; done) | (simp [T.isInt] at hxint; done))] at hcv
 subst hcv
 exact ⟨_, results_tmp rfl _ _ _, rfl, hst.2.2⟩

end Go.Proofs.YtbicoknghdgahaaGreat

namespace Go.Proofs.YtbicoknghdgahaaGreat
open Go.RowKit
attribute [local go_sem] run_store_float run_load_k meth_IsNull meth_IsFloat meth_IsInt meth_IsString meth_IsBool meth_IsList meth_IsMap meth_AsFloat meth_AsInt meth_AsString meth_AsBool

attribute [local go_sem] T.isNull T.isFlt T.isInt T.isStr T.isBool T.isList T.isMap

set_option maxRecDepth 100000 in
set_option maxHeartbeats 4000000 in
theorem compareInt (n : Int) {F G : Nat → Prop} {t : T} {v1 v2 : Value} {w : World} (pa : Addr) (h1 : ValAt F w (.int n) v1) (h2 : ValAt G w t v2) (hF : ∀ b, F b → b < w.heap.size) (hG : ∀ b, G b → b < w.heap.size) :
  Calls Tryz.prog 209 #[.iface 303 (.pointer (some pa)), v1, v2] w (CmpPost (T.cmp (.int n) t) w) := by
 obtain ⟨p, u, rfl, hp, hB, hu⟩ := h1
 obtain ⟨q, v, rfl, hq, hC, hv⟩ := h2
 have hpl := hF p hp
 have hql := hG q hq
 have hc := hB.cell 0
 have hd := hC.cell 0
 simp at hc hd
 clear hB hC hF hG hp hq
 have hst : St2 w p q u v w := ⟨hc, hd, Below.refl _ _⟩
 obtain ⟨c, hcv⟩ : ∃ c, T.cmp (.int n) t = c := ⟨_, rfl⟩
 rw [hcv]
 have Hc := hide hcv
 clear hcv
 have Hu := hide hu
 have Hv := hide hv
 clear hv
 cases hu
 go_enter_defers Tryz.func209, Tryz.ntmps209
 go_wp2_with fail
 refine (St2.call hst hpl hql (IsFloat_calls Hu.out _)).mono ?_
 rintro e w1 ⟨rfl, hst⟩
 have hc := hst.1
 have hd := hst.2.1
 go_wp2_with fail
 refine (St2.call hst hpl hql (IsFloat_calls Hv.out _)).mono ?_
 rintro e w1 ⟨rfl, hst⟩
 have hc := hst.1
 have hd := hst.2.1
 cases hxflt : t.isFlt
 rotate_left
 ·obtain ⟨f', rfl, rfl⟩ := form_flt Hv.out hxflt
  go_wp2_with fail
  refine (St2.call hst hpl hql (IsInt_calls Hu.out _)).mono ?_
  rintro e w1 ⟨rfl, hst⟩
  have hc := hst.1
  have hd := hst.2.1
  go_wp2_with fail
  refine (St2.call hst hpl hql (AsInt_calls _ _)).mono ?_
  rintro e w1 ⟨rfl, hst⟩
  have hc := hst.1
  have hd := hst.2.1
  go_wp2_with fail
  refine (St2.call hst hpl hql (AsFloat_calls _ _)).mono ?_
  rintro e w1 ⟨rfl, hst⟩
  have hc := hst.1
  have hd := hst.2.1
  go_wp2_with fail
  refine (floatCompare_calls _ _ _).mono ?_
  rintro e w' ⟨rfl, rfl⟩
  go_wp2_with fail
  have hcv := Hc.out
  simp only [T.cmp, toF] at hcv
  subst hcv
  exact ⟨_, results_tmp rfl _ _ _, rfl, hst.2.2⟩
 go_wp2_with fail
 refine (St2.call hst hpl hql (IsInt_calls Hu.out _)).mono ?_
 rintro e w1 ⟨rfl, hst⟩
 have hc := hst.1
 have hd := hst.2.1
 go_wp2_with fail
 refine (St2.call hst hpl hql (IsInt_calls Hv.out _)).mono ?_
 rintro e w1 ⟨rfl, hst⟩
 have hc := hst.1
 have hd := hst.2.1
 cases hxint : t.isInt
 rotate_left
 ·obtain ⟨n', rfl, rfl⟩ := form_int Hv.out hxint
  go_wp2_with fail
  refine (St2.call hst hpl hql (AsInt_calls _ _)).mono ?_
  rintro e w1 ⟨rfl, hst⟩
  have hc := hst.1
  have hd := hst.2.1
  go_wp2_with fail
  refine (St2.call hst hpl hql (AsInt_calls _ _)).mono ?_
  rintro e w1 ⟨rfl, hst⟩
  have hc := hst.1
  have hd := hst.2.1
  go_wp2_with fail
  refine (intCompare_calls _ _ _).mono ?_
  rintro e w' ⟨rfl, rfl⟩
  go_wp2_with fail
  have hcv := Hc.out
  simp only [T.cmp, toF] at hcv
  subst hcv
  exact ⟨_, results_tmp rfl _ _ _, rfl, hst.2.2⟩
 go_wp2_with fail
 have hcv := Hc.out
 rw [cmp_lt (by cases t <;> first | (simp [T.ord]; done) | (simp [T.isFlt] at hxflt; done) | (simp [T.isInt] at hxint; done))] at hcv
 subst hcv
 exact ⟨_, results_tmp rfl _ _ _, rfl, hst.2.2⟩

end Go.Proofs.YtbicoknghdgahaaGreat

namespace Go.Proofs.YtbicoknghdgahaaGreat
open Go.RowKit
attribute [local go_sem] run_store_float run_load_k meth_IsNull meth_IsFloat meth_IsInt meth_IsString meth_IsBool meth_IsList meth_IsMap meth_AsFloat meth_AsInt meth_AsString meth_AsBool

attribute [local go_sem] T.isNull T.isFlt T.isInt T.isStr T.isBool T.isList T.isMap

set_option maxRecDepth 100000 in
set_option maxHeartbeats 4000000 in
theorem compareStr (s : ByteArray) {F G : Nat → Prop} {t : T} {v1 v2 : Value} {w : World} (pa : Addr) (h1 : ValAt F w (.str s) v1) (h2 : ValAt G w t v2) (hF : ∀ b, F b → b < w.heap.size) (hG : ∀ b, G b → b < w.heap.size) :
  Calls Tryz.prog 209 #[.iface 303 (.pointer (some pa)), v1, v2] w (CmpPost (T.cmp (.str s) t) w) := by
 obtain ⟨p, u, rfl, hp, hB, hu⟩ := h1
 obtain ⟨q, v, rfl, hq, hC, hv⟩ := h2
 have hpl := hF p hp
 have hql := hG q hq
 have hc := hB.cell 0
 have hd := hC.cell 0
 simp at hc hd
 clear hB hC hF hG hp hq
 have hst : St2 w p q u v w := ⟨hc, hd, Below.refl _ _⟩
 obtain ⟨c, hcv⟩ : ∃ c, T.cmp (.str s) t = c := ⟨_, rfl⟩
 rw [hcv]
 have Hc := hide hcv
 clear hcv
 have Hu := hide hu
 have Hv := hide hv
 clear hv
 cases hu
 go_enter_defers Tryz.func209, Tryz.ntmps209
 go_wp2_with fail
 refine (St2.call hst hpl hql (IsFloat_calls Hu.out _)).mono ?_
 rintro e w1 ⟨rfl, hst⟩
 have hc := hst.1
 have hd := hst.2.1
 go_wp2_with fail
 refine (St2.call hst hpl hql (IsFloat_calls Hv.out _)).mono ?_
 rintro e w1 ⟨rfl, hst⟩
 have hc := hst.1
 have hd := hst.2.1
 cases hxflt : t.isFlt
 rotate_left
 ·skip
  go_wp2_with fail
  refine (St2.call hst hpl hql (IsInt_calls Hu.out _)).mono ?_
  rintro e w1 ⟨rfl, hst⟩
  have hc := hst.1
  have hd := hst.2.1
  go_wp2_with fail
  have hcv := Hc.out
  rw [cmp_gt (by cases t <;> first | (simp [T.ord]; done) | (simp [T.isFlt] at hxflt; done))] at hcv
  subst hcv
  exact ⟨_, results_tmp rfl _ _ _, rfl, hst.2.2⟩
 go_wp2_with fail
 refine (St2.call hst hpl hql (IsInt_calls Hu.out _)).mono ?_
 rintro e w1 ⟨rfl, hst⟩
 have hc := hst.1
 have hd := hst.2.1
 go_wp2_with fail
 refine (St2.call hst hpl hql (IsInt_calls Hv.out _)).mono ?_
 rintro e w1 ⟨rfl, hst⟩
 have hc := hst.1
 have hd := hst.2.1
 cases hxint : t.isInt
 rotate_left
 ·skip
  go_wp2_with fail
  have hcv := Hc.out
  rw [cmp_gt (by cases t <;> first | (simp [T.ord]; done) | (simp [T.isInt] at hxint; done))] at hcv
  subst hcv
  exact ⟨_, results_tmp rfl _ _ _, rfl, hst.2.2⟩
 go_wp2_with fail
 refine (St2.call hst hpl hql (IsString_calls Hu.out _)).mono ?_
 rintro e w1 ⟨rfl, hst⟩
 have hc := hst.1
 have hd := hst.2.1
 go_wp2_with fail
 refine (St2.call hst hpl hql (IsString_calls Hv.out _)).mono ?_
 rintro e w1 ⟨rfl, hst⟩
 have hc := hst.1
 have hd := hst.2.1
 cases hxstr : t.isStr
 rotate_left
 ·obtain ⟨s', rfl, rfl⟩ := form_str Hv.out hxstr
  go_wp2_with fail
  refine (St2.call hst hpl hql (AsString_calls _ _)).mono ?_
  rintro e w1 ⟨rfl, hst⟩
  have hc := hst.1
  have hd := hst.2.1
  go_wp2_with fail
  refine (St2.call hst hpl hql (AsString_calls _ _)).mono ?_
  rintro e w1 ⟨rfl, hst⟩
  have hc := hst.1
  have hd := hst.2.1
  go_wp2_with fail
  refine (stringsCompare_calls _ _ _).mono ?_
  rintro e w' ⟨rfl, rfl⟩
  go_wp2_with fail
  have hcv := Hc.out
  simp only [T.cmp, toF] at hcv
  subst hcv
  exact ⟨_, results_tmp rfl _ _ _, rfl, hst.2.2⟩
 go_wp2_with fail
 have hcv := Hc.out
 rw [cmp_lt (by cases t <;> first | (simp [T.ord]; done) | (simp [T.isFlt] at hxflt; done) | (simp [T.isInt] at hxint; done) | (simp [T.isStr] at hxstr; done))] at hcv
 subst hcv
 exact ⟨_, results_tmp rfl _ _ _, rfl, hst.2.2⟩

end Go.Proofs.YtbicoknghdgahaaGreat

namespace Go.Proofs.YtbicoknghdgahaaGreat
open Go.RowKit
attribute [local go_sem] run_store_float run_load_k meth_IsNull meth_IsFloat meth_IsInt meth_IsString meth_IsBool meth_IsList meth_IsMap meth_AsFloat meth_AsInt meth_AsString meth_AsBool

attribute [local go_sem] T.isNull T.isFlt T.isInt T.isStr T.isBool T.isList T.isMap

set_option maxRecDepth 100000 in
set_option maxHeartbeats 4000000 in
theorem compareBool (b : Bool) {F G : Nat → Prop} {t : T} {v1 v2 : Value} {w : World} (pa : Addr) (h1 : ValAt F w (.bool b) v1) (h2 : ValAt G w t v2) (hF : ∀ b, F b → b < w.heap.size) (hG : ∀ b, G b → b < w.heap.size) :
  Calls Tryz.prog 209 #[.iface 303 (.pointer (some pa)), v1, v2] w (CmpPost (T.cmp (.bool b) t) w) := by
 obtain ⟨p, u, rfl, hp, hB, hu⟩ := h1
 obtain ⟨q, v, rfl, hq, hC, hv⟩ := h2
 have hpl := hF p hp
 have hql := hG q hq
 have hc := hB.cell 0
 have hd := hC.cell 0
 simp at hc hd
 clear hB hC hF hG hp hq
 have hst : St2 w p q u v w := ⟨hc, hd, Below.refl _ _⟩
 obtain ⟨c, hcv⟩ : ∃ c, T.cmp (.bool b) t = c := ⟨_, rfl⟩
 rw [hcv]
 have Hc := hide hcv
 clear hcv
 have Hu := hide hu
 have Hv := hide hv
 clear hv
 cases hu
 go_enter_defers Tryz.func209, Tryz.ntmps209
 go_wp2_with fail
 refine (St2.call hst hpl hql (IsFloat_calls Hu.out _)).mono ?_
 rintro e w1 ⟨rfl, hst⟩
 have hc := hst.1
 have hd := hst.2.1
 go_wp2_with fail
 refine (St2.call hst hpl hql (IsFloat_calls Hv.out _)).mono ?_
 rintro e w1 ⟨rfl, hst⟩
 have hc := hst.1
 have hd := hst.2.1
 cases hxflt : t.isFlt
 rotate_left
 ·skip
  go_wp2_with fail
  refine (St2.call hst hpl hql (IsInt_calls Hu.out _)).mono ?_
  rintro e w1 ⟨rfl, hst⟩
  have hc := hst.1
  have hd := hst.2.1
  go_wp2_with fail
  have hcv := Hc.out
  rw [cmp_gt (by cases t <;> first | (simp [T.ord]; done) | (simp [T.isFlt] at hxflt; done))] at hcv
  subst hcv
  exact ⟨_, results_tmp rfl _ _ _, rfl, hst.2.2⟩
 go_wp2_with fail
 refine (St2.call hst hpl hql (IsInt_calls Hu.out _)).mono ?_
 rintro e w1 ⟨rfl, hst⟩
 have hc := hst.1
 have hd := hst.2.1
 go_wp2_with fail
 refine (St2.call hst hpl hql (IsInt_calls Hv.out _)).mono ?_
 rintro e w1 ⟨rfl, hst⟩
 have hc := hst.1
 have hd := hst.2.1
 cases hxint : t.isInt
 rotate_left
 ·skip
  go_wp2_with fail
  have hcv := Hc.out
  rw [cmp_gt (by cases t <;> first | (simp [T.ord]; done) | (simp [T.isInt] at hxint; done))] at hcv
  subst hcv
  exact ⟨_, results_tmp rfl _ _ _, rfl, hst.2.2⟩
 go_wp2_with fail
 refine (St2.call hst hpl hql (IsString_calls Hu.out _)).mono ?_
 rintro e w1 ⟨rfl, hst⟩
 have hc := hst.1
 have hd := hst.2.1
 go_wp2_with fail
 refine (St2.call hst hpl hql (IsString_calls Hv.out _)).mono ?_
 rintro e w1 ⟨rfl, hst⟩
 have hc := hst.1
 have hd := hst.2.1
 cases hxstr : t.isStr
 rotate_left
 ·skip
  go_wp2_with fail
  have hcv := Hc.out
  rw [cmp_gt (by cases t <;> first | (simp [T.ord]; done) | (simp [T.isStr] at hxstr; done))] at hcv
  subst hcv
  exact ⟨_, results_tmp rfl _ _ _, rfl, hst.2.2⟩
 go_wp2_with fail
 refine (St2.call hst hpl hql (IsBool_calls Hu.out _)).mono ?_
 rintro e w1 ⟨rfl, hst⟩
 have hc := hst.1
 have hd := hst.2.1
 go_wp2_with fail
 refine (St2.call hst hpl hql (IsBool_calls Hv.out _)).mono ?_
 rintro e w1 ⟨rfl, hst⟩
 have hc := hst.1
 have hd := hst.2.1
 cases hxbool : t.isBool
 rotate_left
 ·obtain ⟨b', rfl, rfl⟩ := form_bool Hv.out hxbool
  go_wp2_with fail
  refine (St2.call hst hpl hql (AsBool_calls _ _)).mono ?_
  rintro e w1 ⟨rfl, hst⟩
  have hc := hst.1
  have hd := hst.2.1
  go_wp2_with fail
  refine (St2.call hst hpl hql (AsBool_calls _ _)).mono ?_
  rintro e w1 ⟨rfl, hst⟩
  have hc := hst.1
  have hd := hst.2.1
  go_wp2_with fail
  refine (boolCompare_calls _ _ _).mono ?_
  rintro e w' ⟨rfl, rfl⟩
  go_wp2_with fail
  have hcv := Hc.out
  simp only [T.cmp, toF] at hcv
  subst hcv
  exact ⟨_, results_tmp rfl _ _ _, rfl, hst.2.2⟩
 go_wp2_with fail
 have hcv := Hc.out
 rw [cmp_lt (by cases t <;> first | (simp [T.ord]; done) | (simp [T.isFlt] at hxflt; done) | (simp [T.isInt] at hxint; done) | (simp [T.isStr] at hxstr; done) | (simp [T.isBool] at hxbool; done))] at hcv
 subst hcv
 exact ⟨_, results_tmp rfl _ _ _, rfl, hst.2.2⟩

end Go.Proofs.YtbicoknghdgahaaGreat

namespace Go.Proofs.YtbicoknghdgahaaGreat
open Go.RowKit
attribute [local go_sem] run_store_float run_load_k meth_IsNull meth_IsFloat meth_IsInt meth_IsString meth_IsBool meth_IsList meth_IsMap meth_AsFloat meth_AsInt meth_AsString meth_AsBool

attribute [local go_sem] T.isNull T.isFlt T.isInt T.isStr T.isBool T.isList T.isMap

set_option maxRecDepth 100000 in
set_option maxHeartbeats 4000000 in
theorem compareList (l : List T) {F G : Nat → Prop} {t : T} {v1 v2 : Value} {w : World} (hne : t.isList = false) (pa : Addr) (h1 : ValAt F w (.list l) v1) (h2 : ValAt G w t v2) (hF : ∀ b, F b → b < w.heap.size) (hG : ∀ b, G b → b < w.heap.size) :
  Calls Tryz.prog 209 #[.iface 303 (.pointer (some pa)), v1, v2] w (CmpPost (T.cmp (.list l) t) w) := by
 obtain ⟨p, u, rfl, hp, hB, hu⟩ := h1
 obtain ⟨q, v, rfl, hq, hC, hv⟩ := h2
 have hpl := hF p hp
 have hql := hG q hq
 have hc := hB.cell 0
 have hd := hC.cell 0
 simp at hc hd
 clear hB hC hF hG hp hq
 have hst : St2 w p q u v w := ⟨hc, hd, Below.refl _ _⟩
 obtain ⟨c, hcv⟩ : ∃ c, T.cmp (.list l) t = c := ⟨_, rfl⟩
 rw [hcv]
 have Hc := hide hcv
 clear hcv
 have Hu := hide hu
 have Hv := hide hv
 clear hv
 cases hu
 go_enter_defers Tryz.func209, Tryz.ntmps209
 go_wp2_with fail
 refine (St2.call hst hpl hql (IsFloat_calls Hu.out _)).mono ?_
 rintro e w1 ⟨rfl, hst⟩
 have hc := hst.1
 have hd := hst.2.1
 go_wp2_with fail
 refine (St2.call hst hpl hql (IsFloat_calls Hv.out _)).mono ?_
 rintro e w1 ⟨rfl, hst⟩
 have hc := hst.1
 have hd := hst.2.1
 cases hxflt : t.isFlt
 rotate_left
 ·skip
  go_wp2_with fail
  refine (St2.call hst hpl hql (IsInt_calls Hu.out _)).mono ?_
  rintro e w1 ⟨rfl, hst⟩
  have hc := hst.1
  have hd := hst.2.1
  go_wp2_with fail
  have hcv := Hc.out
  rw [cmp_gt (by cases t <;> first | (simp [T.ord]; done) | (simp [T.isFlt] at hxflt; done))] at hcv
  subst hcv
  exact ⟨_, results_tmp rfl _ _ _, rfl, hst.2.2⟩
 go_wp2_with fail
 refine (St2.call hst hpl hql (IsInt_calls Hu.out _)).mono ?_
 rintro e w1 ⟨rfl, hst⟩
 have hc := hst.1
 have hd := hst.2.1
 go_wp2_with fail
 refine (St2.call hst hpl hql (IsInt_calls Hv.out _)).mono ?_
 rintro e w1 ⟨rfl, hst⟩
 have hc := hst.1
 have hd := hst.2.1
 cases hxint : t.isInt
 rotate_left
 ·skip
  go_wp2_with fail
  have hcv := Hc.out
  rw [cmp_gt (by cases t <;> first | (simp [T.ord]; done) | (simp [T.isInt] at hxint; done))] at hcv
  subst hcv
  exact ⟨_, results_tmp rfl _ _ _, rfl, hst.2.2⟩
 go_wp2_with fail
 refine (St2.call hst hpl hql (IsString_calls Hu.out _)).mono ?_
 rintro e w1 ⟨rfl, hst⟩
 have hc := hst.1
 have hd := hst.2.1
 go_wp2_with fail
 refine (St2.call hst hpl hql (IsString_calls Hv.out _)).mono ?_
 rintro e w1 ⟨rfl, hst⟩
 have hc := hst.1
 have hd := hst.2.1
 cases hxstr : t.isStr
 rotate_left
 ·skip
  go_wp2_with fail
  have hcv := Hc.out
  rw [cmp_gt (by cases t <;> first | (simp [T.ord]; done) | (simp [T.isStr] at hxstr; done))] at hcv
  subst hcv
  exact ⟨_, results_tmp rfl _ _ _, rfl, hst.2.2⟩
 go_wp2_with fail
 refine (St2.call hst hpl hql (IsBool_calls Hu.out _)).mono ?_
 rintro e w1 ⟨rfl, hst⟩
 have hc := hst.1
 have hd := hst.2.1
 go_wp2_with fail
 refine (St2.call hst hpl hql (IsBool_calls Hv.out _)).mono ?_
 rintro e w1 ⟨rfl, hst⟩
 have hc := hst.1
 have hd := hst.2.1
 cases hxbool : t.isBool
 rotate_left
 ·skip
  go_wp2_with fail
  have hcv := Hc.out
  rw [cmp_gt (by cases t <;> first | (simp [T.ord]; done) | (simp [T.isBool] at hxbool; done))] at hcv
  subst hcv
  exact ⟨_, results_tmp rfl _ _ _, rfl, hst.2.2⟩
 go_wp2_with fail
 refine (St2.call hst hpl hql (IsList_calls Hu.out _)).mono ?_
 rintro e w1 ⟨rfl, hst⟩
 have hc := hst.1
 have hd := hst.2.1
 go_wp2_with fail
 refine (St2.call hst hpl hql (IsList_calls Hv.out _)).mono ?_
 rintro e w1 ⟨rfl, hst⟩
 have hc := hst.1
 have hd := hst.2.1
 cases hxlist : t.isList
 rotate_left
 ·exact absurd hxlist (by rw [hne]; simp)
 go_wp2_with fail
 have hcv := Hc.out
 rw [cmp_lt (by cases t <;> first | (simp [T.ord]; done) | (simp [T.isFlt] at hxflt; done) | (simp [T.isInt] at hxint; done) | (simp [T.isStr] at hxstr; done) | (simp [T.isBool] at hxbool; done) | (simp [T.isList] at hxlist; done))] at hcv
 subst hcv
 exact ⟨_, results_tmp rfl _ _ _, rfl, hst.2.2⟩

end Go.Proofs.YtbicoknghdgahaaGreat

namespace Go.Proofs.YtbicoknghdgahaaGreat
open Go.RowKit
attribute [local go_sem] run_store_float run_load_k meth_IsNull meth_IsFloat meth_IsInt meth_IsString meth_IsBool meth_IsList meth_IsMap meth_AsFloat meth_AsInt meth_AsString meth_AsBool

attribute [local go_sem] T.isNull T.isFlt T.isInt T.isStr T.isBool T.isList T.isMap

set_option maxRecDepth 100000 in
set_option maxHeartbeats 4000000 in
theorem compareMap (m : List (ByteArray × T)) {F G : Nat → Prop} {t : T} {v1 v2 : Value} {w : World} (hne : t.isMap = false) (pa : Addr) (h1 : ValAt F w (.map m) v1) (h2 : ValAt G w t v2) (hF : ∀ b, F b → b < w.heap.size) (hG : ∀ b, G b → b < w.heap.size) :
  Calls Tryz.prog 209 #[.iface 303 (.pointer (some pa)), v1, v2] w (CmpPost (T.cmp (.map m) t) w) := by
 obtain ⟨p, u, rfl, hp, hB, hu⟩ := h1
 obtain ⟨q, v, rfl, hq, hC, hv⟩ := h2
 have hpl := hF p hp
 have hql := hG q hq
 have hc := hB.cell 0
 have hd := hC.cell 0
 simp at hc hd
 clear hB hC hF hG hp hq
 have hst : St2 w p q u v w := ⟨hc, hd, Below.refl _ _⟩
 obtain ⟨c, hcv⟩ : ∃ c, T.cmp (.map m) t = c := ⟨_, rfl⟩
 rw [hcv]
 have Hc := hide hcv
 clear hcv
 have Hu := hide hu
 have Hv := hide hv
 clear hv
 cases hu
 go_enter_defers Tryz.func209, Tryz.ntmps209
 go_wp2_with fail
 refine (St2.call hst hpl hql (IsFloat_calls Hu.out _)).mono ?_
 rintro e w1 ⟨rfl, hst⟩
 have hc := hst.1
 have hd := hst.2.1
 go_wp2_with fail
 refine (St2.call hst hpl hql (IsFloat_calls Hv.out _)).mono ?_
 rintro e w1 ⟨rfl, hst⟩
 have hc := hst.1
 have hd := hst.2.1
 cases hxflt : t.isFlt
 rotate_left
 ·skip
  go_wp2_with fail
  refine (St2.call hst hpl hql (IsInt_calls Hu.out _)).mono ?_
  rintro e w1 ⟨rfl, hst⟩
  have hc := hst.1
  have hd := hst.2.1
  go_wp2_with fail
  have hcv := Hc.out
  rw [cmp_gt (by cases t <;> first | (simp [T.ord]; done) | (simp [T.isFlt] at hxflt; done))] at hcv
  subst hcv
  exact ⟨_, results_tmp rfl _ _ _, rfl, hst.2.2⟩
 go_wp2_with fail
 refine (St2.call hst hpl hql (IsInt_calls Hu.out _)).mono ?_
 rintro e w1 ⟨rfl, hst⟩
 have hc := hst.1
 have hd := hst.2.1
 go_wp2_with fail
 refine (St2.call hst hpl hql (IsInt_calls Hv.out _)).mono ?_
 rintro e w1 ⟨rfl, hst⟩
 have hc := hst.1
 have hd := hst.2.1
 cases hxint : t.isInt
 rotate_left
 ·skip
  go_wp2_with fail
  have hcv := Hc.out
  rw [cmp_gt (by cases t <;> first | (simp [T.ord]; done) | (simp [T.isInt] at hxint; done))] at hcv
  subst hcv
  exact ⟨_, results_tmp rfl _ _ _, rfl, hst.2.2⟩
 go_wp2_with fail
 refine (St2.call hst hpl hql (IsString_calls Hu.out _)).mono ?_
 rintro e w1 ⟨rfl, hst⟩
 have hc := hst.1
 have hd := hst.2.1
 go_wp2_with fail
 refine (St2.call hst hpl hql (IsString_calls Hv.out _)).mono ?_
 rintro e w1 ⟨rfl, hst⟩
 have hc := hst.1
 have hd := hst.2.1
 cases hxstr : t.isStr
 rotate_left
 ·skip
  go_wp2_with fail
  have hcv := Hc.out
  rw [cmp_gt (by cases t <;> first | (simp [T.ord]; done) | (simp [T.isStr] at hxstr; done))] at hcv
  subst hcv
  exact ⟨_, results_tmp rfl _ _ _, rfl, hst.2.2⟩
 go_wp2_with fail
 refine (St2.call hst hpl hql (IsBool_calls Hu.out _)).mono ?_
 rintro e w1 ⟨rfl, hst⟩
 have hc := hst.1
 have hd := hst.2.1
 go_wp2_with fail
 refine (St2.call hst hpl hql (IsBool_calls Hv.out _)).mono ?_
 rintro e w1 ⟨rfl, hst⟩
 have hc := hst.1
 have hd := hst.2.1
 cases hxbool : t.isBool
 rotate_left
 ·skip
  go_wp2_with fail
  have hcv := Hc.out
  rw [cmp_gt (by cases t <;> first | (simp [T.ord]; done) | (simp [T.isBool] at hxbool; done))] at hcv
  subst hcv
  exact ⟨_, results_tmp rfl _ _ _, rfl, hst.2.2⟩
 go_wp2_with fail
 refine (St2.call hst hpl hql (IsList_calls Hu.out _)).mono ?_
 rintro e w1 ⟨rfl, hst⟩
 have hc := hst.1
 have hd := hst.2.1
 go_wp2_with fail
 refine (St2.call hst hpl hql (IsList_calls Hv.out _)).mono ?_
 rintro e w1 ⟨rfl, hst⟩
 have hc := hst.1
 have hd := hst.2.1
 cases hxlist : t.isList
 rotate_left
 ·skip
  go_wp2_with fail
  have hcv := Hc.out
  rw [cmp_gt (by cases t <;> first | (simp [T.ord]; done) | (simp [T.isList] at hxlist; done))] at hcv
  subst hcv
  exact ⟨_, results_tmp rfl _ _ _, rfl, hst.2.2⟩
 go_wp2_with fail
 refine (St2.call hst hpl hql (IsMap_calls Hu.out _)).mono ?_
 rintro e w1 ⟨rfl, hst⟩
 have hc := hst.1
 have hd := hst.2.1
 go_wp2_with fail
 refine (St2.call hst hpl hql (IsMap_calls Hv.out _)).mono ?_
 rintro e w1 ⟨rfl, hst⟩
 have hc := hst.1
 have hd := hst.2.1
 cases hxmap : t.isMap
 rotate_left
 ·exact absurd hxmap (by rw [hne]; simp)
 go_wp2_with fail
 have hcv := Hc.out
 rw [cmp_lt (by cases t <;> first | (simp [T.ord]; done) | (simp [T.isFlt] at hxflt; done) | (simp [T.isInt] at hxint; done) | (simp [T.isStr] at hxstr; done) | (simp [T.isBool] at hxbool; done) | (simp [T.isList] at hxlist; done) | (simp [T.isMap] at hxmap; done))] at hcv
 subst hcv
 exact ⟨_, results_tmp rfl _ _ _, rfl, hst.2.2⟩

end Go.Proofs.YtbicoknghdgahaaGreat

namespace Go.Proofs.YtbicoknghdgahaaGreat
open Go.RowKit
attribute [local go_sem] run_store_float run_load_k meth_IsNull meth_IsFloat meth_IsInt meth_IsString meth_IsBool meth_IsList meth_IsMap meth_AsFloat meth_AsInt meth_AsString meth_AsBool

attribute [local go_sem] T.isNull T.isFlt T.isInt T.isStr T.isBool T.isList T.isMap

set_option maxRecDepth 100000 in
set_option maxHeartbeats 4000000 in
theorem compareNull {F G : Nat → Prop} {t : T} {v1 v2 : Value} {w : World} (pa : Addr) (h1 : ValAt F w .null v1) (h2 : ValAt G w t v2) (hF : ∀ b, F b → b < w.heap.size) (hG : ∀ b, G b → b < w.heap.size) :
  Calls Tryz.prog 209 #[.iface 303 (.pointer (some pa)), v1, v2] w (CmpPost (T.cmp .null t) w) := by
 obtain ⟨p, u, rfl, hp, hB, hu⟩ := h1
 obtain ⟨q, v, rfl, hq, hC, hv⟩ := h2
 have hpl := hF p hp
 have hql := hG q hq
 have hc := hB.cell 0
 have hd := hC.cell 0
 simp at hc hd
 clear hB hC hF hG hp hq
 have hst : St2 w p q u v w := ⟨hc, hd, Below.refl _ _⟩
 obtain ⟨c, hcv⟩ : ∃ c, T.cmp .null t = c := ⟨_, rfl⟩
 rw [hcv]
 have Hc := hide hcv
 clear hcv
 have Hu := hide hu
 have Hv := hide hv
 clear hv
 cases hu
 go_enter_defers Tryz.func209, Tryz.ntmps209
 go_wp2_with fail
 refine (St2.call hst hpl hql (IsFloat_calls Hu.out _)).mono ?_
 rintro e w1 ⟨rfl, hst⟩
 have hc := hst.1
 have hd := hst.2.1
 go_wp2_with fail
 refine (St2.call hst hpl hql (IsFloat_calls Hv.out _)).mono ?_
 rintro e w1 ⟨rfl, hst⟩
 have hc := hst.1
 have hd := hst.2.1
 cases hxflt : t.isFlt
 rotate_left
 ·skip
  go_wp2_with fail
  refine (St2.call hst hpl hql (IsInt_calls Hu.out _)).mono ?_
  rintro e w1 ⟨rfl, hst⟩
  have hc := hst.1
  have hd := hst.2.1
  go_wp2_with fail
  have hcv := Hc.out
  rw [cmp_gt (by cases t <;> first | (simp [T.ord]; done) | (simp [T.isFlt] at hxflt; done))] at hcv
  subst hcv
  exact ⟨_, results_tmp rfl _ _ _, rfl, hst.2.2⟩
 go_wp2_with fail
 refine (St2.call hst hpl hql (IsInt_calls Hu.out _)).mono ?_
 rintro e w1 ⟨rfl, hst⟩
 have hc := hst.1
 have hd := hst.2.1
 go_wp2_with fail
 refine (St2.call hst hpl hql (IsInt_calls Hv.out _)).mono ?_
 rintro e w1 ⟨rfl, hst⟩
 have hc := hst.1
 have hd := hst.2.1
 cases hxint : t.isInt
 rotate_left
 ·skip
  go_wp2_with fail
  have hcv := Hc.out
  rw [cmp_gt (by cases t <;> first | (simp [T.ord]; done) | (simp [T.isInt] at hxint; done))] at hcv
  subst hcv
  exact ⟨_, results_tmp rfl _ _ _, rfl, hst.2.2⟩
 go_wp2_with fail
 refine (St2.call hst hpl hql (IsString_calls Hu.out _)).mono ?_
 rintro e w1 ⟨rfl, hst⟩
 have hc := hst.1
 have hd := hst.2.1
 go_wp2_with fail
 refine (St2.call hst hpl hql (IsString_calls Hv.out _)).mono ?_
 rintro e w1 ⟨rfl, hst⟩
 have hc := hst.1
 have hd := hst.2.1
 cases hxstr : t.isStr
 rotate_left
 ·skip
  go_wp2_with fail
  have hcv := Hc.out
  rw [cmp_gt (by cases t <;> first | (simp [T.ord]; done) | (simp [T.isStr] at hxstr; done))] at hcv
  subst hcv
  exact ⟨_, results_tmp rfl _ _ _, rfl, hst.2.2⟩
 go_wp2_with fail
 refine (St2.call hst hpl hql (IsBool_calls Hu.out _)).mono ?_
 rintro e w1 ⟨rfl, hst⟩
 have hc := hst.1
 have hd := hst.2.1
 go_wp2_with fail
 refine (St2.call hst hpl hql (IsBool_calls Hv.out _)).mono ?_
 rintro e w1 ⟨rfl, hst⟩
 have hc := hst.1
 have hd := hst.2.1
 cases hxbool : t.isBool
 rotate_left
 ·skip
  go_wp2_with fail
  have hcv := Hc.out
  rw [cmp_gt (by cases t <;> first | (simp [T.ord]; done) | (simp [T.isBool] at hxbool; done))] at hcv
  subst hcv
  exact ⟨_, results_tmp rfl _ _ _, rfl, hst.2.2⟩
 go_wp2_with fail
 refine (St2.call hst hpl hql (IsList_calls Hu.out _)).mono ?_
 rintro e w1 ⟨rfl, hst⟩
 have hc := hst.1
 have hd := hst.2.1
 go_wp2_with fail
 refine (St2.call hst hpl hql (IsList_calls Hv.out _)).mono ?_
 rintro e w1 ⟨rfl, hst⟩
 have hc := hst.1
 have hd := hst.2.1
 cases hxlist : t.isList
 rotate_left
 ·skip
  go_wp2_with fail
  have hcv := Hc.out
  rw [cmp_gt (by cases t <;> first | (simp [T.ord]; done) | (simp [T.isList] at hxlist; done))] at hcv
  subst hcv
  exact ⟨_, results_tmp rfl _ _ _, rfl, hst.2.2⟩
 go_wp2_with fail
 refine (St2.call hst hpl hql (IsMap_calls Hu.out _)).mono ?_
 rintro e w1 ⟨rfl, hst⟩
 have hc := hst.1
 have hd := hst.2.1
 go_wp2_with fail
 refine (St2.call hst hpl hql (IsMap_calls Hv.out _)).mono ?_
 rintro e w1 ⟨rfl, hst⟩
 have hc := hst.1
 have hd := hst.2.1
 cases hxmap : t.isMap
 rotate_left
 ·skip
  go_wp2_with fail
  have hcv := Hc.out
  rw [cmp_gt (by cases t <;> first | (simp [T.ord]; done) | (simp [T.isMap] at hxmap; done))] at hcv
  subst hcv
  exact ⟨_, results_tmp rfl _ _ _, rfl, hst.2.2⟩
 go_wp2_with fail
 refine (St2.call hst hpl hql (IsNull_calls Hu.out _)).mono ?_
 rintro e w1 ⟨rfl, hst⟩
 have hc := hst.1
 have hd := hst.2.1
 obtain rfl : t = .null := by cases t <;> first | rfl | (simp [T.isFlt] at hxflt; done) | (simp [T.isInt] at hxint; done) | (simp [T.isStr] at hxstr; done) | (simp [T.isBool] at hxbool; done) | (simp [T.isList] at hxlist; done) | (simp [T.isMap] at hxmap; done)
 go_wp2_with fail
 refine (St2.call hst hpl hql (IsNull_calls Hv.out _)).mono ?_
 rintro e w1 ⟨rfl, hst⟩
 have hc := hst.1
 have hd := hst.2.1
 go_wp2_with fail
 have hcv := Hc.out
 simp only [T.cmp, T.ord, cmpI] at hcv
 subst hcv
 exact ⟨_, results_tmp rfl _ _ _, rfl, hst.2.2⟩

end Go.Proofs.YtbicoknghdgahaaGreat
