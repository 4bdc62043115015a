/-
  Several texts in one: EqA, EqB.
-/
import Derived.Test.YtajeghkjppkhcaaGreatCz
import Derived.Defers
set_option linter.unusedVariables false
set_option linter.unusedSimpArgs false
/-!
  Several texts in one: EqFlt, EqInt, EqStr, EqBool.
-/

/-!
  value.EqualsUsing where the left value is of the kind flt (and the right one of another kind, where that is a list or a map).
-/

namespace Go.Proofs.YtajeghkjppkhcaaGreat
open Go.RowKit
attribute [local go_sem] run_store_float run_load_k meth_IsNull meth_IsFloat meth_IsInt meth_IsString meth_IsBool meth_IsList meth_IsMap meth_AsFloat meth_AsInt meth_AsString meth_AsBool

attribute [local go_sem] T.isNull T.isFlt T.isInt T.isStr T.isBool T.isList T.isMap

end Go.Proofs.YtajeghkjppkhcaaGreat

/-!
  value.EqualsUsing where the left value is of the kind int (and the right one of another kind, where that is a list or a map).
-/

namespace Go.Proofs.YtajeghkjppkhcaaGreat
open Go.RowKit
attribute [local go_sem] run_store_float run_load_k meth_IsNull meth_IsFloat meth_IsInt meth_IsString meth_IsBool meth_IsList meth_IsMap meth_AsFloat meth_AsInt meth_AsString meth_AsBool

attribute [local go_sem] T.isNull T.isFlt T.isInt T.isStr T.isBool T.isList T.isMap

end Go.Proofs.YtajeghkjppkhcaaGreat

/-!
  value.EqualsUsing where the left value is of the kind str (and the right one of another kind, where that is a list or a map).
-/

namespace Go.Proofs.YtajeghkjppkhcaaGreat
open Go.RowKit
attribute [local go_sem] run_store_float run_load_k meth_IsNull meth_IsFloat meth_IsInt meth_IsString meth_IsBool meth_IsList meth_IsMap meth_AsFloat meth_AsInt meth_AsString meth_AsBool

attribute [local go_sem] T.isNull T.isFlt T.isInt T.isStr T.isBool T.isList T.isMap

end Go.Proofs.YtajeghkjppkhcaaGreat

/-!
  value.EqualsUsing where the left value is of the kind bool (and the right one of another kind, where that is a list or a map).
-/

namespace Go.Proofs.YtajeghkjppkhcaaGreat
open Go.RowKit
attribute [local go_sem] run_store_float run_load_k meth_IsNull meth_IsFloat meth_IsInt meth_IsString meth_IsBool meth_IsList meth_IsMap meth_AsFloat meth_AsInt meth_AsString meth_AsBool

attribute [local go_sem] T.isNull T.isFlt T.isInt T.isStr T.isBool T.isList T.isMap

end Go.Proofs.YtajeghkjppkhcaaGreat

/-!
  Several texts in one: EqList, EqMap, EqNull.
-/

/-!
  value.EqualsUsing where the left value is of the kind list (and the right one of another kind, where that is a list or a map).
-/

namespace Go.Proofs.YtajeghkjppkhcaaGreat
open Go.RowKit
attribute [local go_sem] run_store_float run_load_k meth_IsNull meth_IsFloat meth_IsInt meth_IsString meth_IsBool meth_IsList meth_IsMap meth_AsFloat meth_AsInt meth_AsString meth_AsBool

attribute [local go_sem] T.isNull T.isFlt T.isInt T.isStr T.isBool T.isList T.isMap

end Go.Proofs.YtajeghkjppkhcaaGreat

/-!
  value.EqualsUsing where the left value is of the kind map (and the right one of another kind, where that is a list or a map).
-/

namespace Go.Proofs.YtajeghkjppkhcaaGreat
open Go.RowKit
attribute [local go_sem] run_store_float run_load_k meth_IsNull meth_IsFloat meth_IsInt meth_IsString meth_IsBool meth_IsList meth_IsMap meth_AsFloat meth_AsInt meth_AsString meth_AsBool

attribute [local go_sem] T.isNull T.isFlt T.isInt T.isStr T.isBool T.isList T.isMap

end Go.Proofs.YtajeghkjppkhcaaGreat

/-!
  value.EqualsUsing where the left value is of the kind null (and the right one of another kind, where that is a list or a map).
-/

namespace Go.Proofs.YtajeghkjppkhcaaGreat
open Go.RowKit
attribute [local go_sem] run_store_float run_load_k meth_IsNull meth_IsFloat meth_IsInt meth_IsString meth_IsBool meth_IsList meth_IsMap meth_AsFloat meth_AsInt meth_AsString meth_AsBool

attribute [local go_sem] T.isNull T.isFlt T.isInt T.isStr T.isBool T.isList T.isMap

end Go.Proofs.YtajeghkjppkhcaaGreat
