/-
  value.ListEqualsUsing, where the items' equalities are known.
-/
import Derived.Test.YtajeghkjppkhcaaGreatCmpC
import Derived.Test.YtajeghkjppkhcaaGreatCz
set_option linter.unusedVariables false
set_option linter.unusedSimpArgs false
namespace Go.Proofs.YtajeghkjppkhcaaGreat
open Go.RowKit
theorem meth_LLength (n : Nat) (v : Value) (w : World) : (method (n + 1) 362 v "Length").run Tryz.prog w = .ok (275, v) w := by kernel_rfl
theorem meth_LEqualsUsing (n : Nat) (v : Value) (w : World) : (method (n + 1) 362 v "EqualsUsing").run Tryz.prog w = .ok (274, v) w := by kernel_rfl
theorem meth_PLength (n : Nat) (a : Addr) (w : World) : (method (n + 1) 389 (.pointer (some a)) "Length").run Tryz.prog w = (Sem.load .plain a fun v => .pure (275, v)).run Tryz.prog w := by kernel_rfl
theorem meth_PRangeUsing (n : Nat) (a : Addr) (w : World) : (method (n + 1) 389 (.pointer (some a)) "RangeUsing").run Tryz.prog w = (Sem.load .plain a fun v => .pure (277, v)).run Tryz.prog w := by kernel_rfl
attribute [local go_sem] run_store_float run_load_k meth_RangeUsing meth_Next meth_Item meth_emptyNext meth_Free meth_LLength meth_PLength meth_PRangeUsing

theorem eqvL_len {l1 l2 : List T} (h : l1.length ≠ l2.length) : T.eqvL l1 l2 = false := by
  induction l1 generalizing l2 with
  | nil => cases l2 with
    | nil => exact absurd rfl h
    | cons b l2 => rw [T.eqvL]; all_goals simp
  | cons a l1 ih => cases l2 with
    | nil => rw [T.eqvL]; all_goals simp
    | cons b l2 =>
      rw [T.eqvL, ih (by simpa using h), Bool.and_false]

end Go.Proofs.YtajeghkjppkhcaaGreat
