/-
  impl.toMapping, impl.toList; a value's fields as a map of the package.
-/
import Derived.Test.YtajeghkjppkhcaaMapsV
set_option linter.unusedVariables false
set_option linter.unusedSimpArgs false
namespace Go.Proofs.Ytajeghkjppkhcaa
open Go.RowKit
attribute [local go_sem] run_store_float run_load_k meth_AsList meth_AsMap

/-- the fields of a value, whatever its kind is -/
def RV.flds : RV → List (ByteArray × T)
  | .mk _ _ _ _ keys l => mapOf keys (l.map RV.tree)
/-- an interface value that is the package's map of these fields -/
def MapV (F : Nat → Prop) (w : World) (l : List (ByteArray × T)) (v : Value) : Prop := ∃ r val, v = .iface 149 (.map (some r)) ∧ MapAt F w r l val
theorem MapV.old {F : Nat → Prop} {W : World} {l : List (ByteArray × T)} {v : Value} (h : MapV F W l v) (hF : ∀ b, F b → b < W.heap.size) : MapV (Old W) W l v := by
  obtain ⟨r, val, rfl, h⟩ := h
  exact ⟨r, val, rfl, h.mono hF⟩
theorem MapV.at_ {w W : World} {l : List (ByteArray × T)} {v : Value} (h : MapV (Old w) w l v) (hb : Below w.heap.size w W) : MapV (Old W) W l v := by
  obtain ⟨r, val, rfl, h⟩ := h
  exact ⟨r, val, rfl, (h.below (fun _ h => h) hb).mono fun _ h => Nat.lt_of_lt_of_le h hb.size⟩
end Go.Proofs.Ytajeghkjppkhcaa
