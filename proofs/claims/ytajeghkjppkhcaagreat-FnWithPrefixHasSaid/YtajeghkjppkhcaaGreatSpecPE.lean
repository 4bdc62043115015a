/-
  Several texts in one: SpecP, SpecE, SpecV.
-/
import Derived.Test.YtajeghkjppkhcaaGreatSpecO
set_option linter.unusedVariables false
set_option linter.unusedSimpArgs false
/-!
  The reference's order of two values, spec.comparePlain.
-/

namespace Go.Proofs.YtajeghkjppkhcaaGreat
open Go.RowKit
attribute [local go_sem] run_store_float T.ord

end Go.Proofs.YtajeghkjppkhcaaGreat

/-!
  The reference's equality of two values, spec.equalPlain.
-/

namespace Go.Proofs.YtajeghkjppkhcaaGreat
open Go.RowKit
attribute [local go_sem] run_store_float

/-- the kind's number in the struct -/
def T.kn : T → Int
  | .null => 0
  | .bool _ => 1
  | .int _ => 2
  | .flt _ => 3
  | .str _ => 4
  | .list _ => 5
  | .map _ => 6
theorem TAt.kn {w : World} {t : T} {a0 a1 a2 a3 a4 a5 : Value} (h : TAt w t [a0, a1, a2, a3, a4, a5]) : a0 = .int .i64 t.kn := by
  unfold TAt at h
  cases t <;> (unfold T.toRV at h; cases h; rfl)

end Go.Proofs.YtajeghkjppkhcaaGreat

/-!
  spec.CompareValues, spec.EqualValues: what they return, of every two values.
-/

namespace Go.Proofs.YtajeghkjppkhcaaGreat
open Go.RowKit


end Go.Proofs.YtajeghkjppkhcaaGreat
