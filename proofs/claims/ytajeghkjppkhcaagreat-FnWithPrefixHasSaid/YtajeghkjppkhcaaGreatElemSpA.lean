/-
  Several texts in one: ElemSp, ElemSp2.
-/
import Derived.Test.YtajeghkjppkhcaaGreatElemOO
import Derived.Test.YtajeghkjppkhcaaGreatElemCI
import Derived.Test.YtajeghkjppkhcaaGreatSpecPE
import Derived.StillTailTactics
set_option linter.unusedVariables false
set_option linter.unusedSimpArgs false
/-!
  spec.elemRank, CompareKeys, CompareElems, EqualKeys, EqualElems: the order of steps, as the reference has it. Printed by genelemsp.py.
-/

namespace Go.Proofs.YtajeghkjppkhcaaGreat
open Go.RowKit
attribute [local go_sem] run_store_float

end Go.Proofs.YtajeghkjppkhcaaGreat

/-!
  spec.CompareElems, EqualKeys, EqualElems: printed by genelemsp2.py.
-/

namespace Go.Proofs.YtajeghkjppkhcaaGreat
open Go.RowKit
attribute [local go_sem] run_store_float

theorem ElemAt.parts {F : Nat → Prop} {w : World} {r : REl} {k0 n : Int} {k1 : ByteArray} {a b c d e f g i : Value} (h : ElemAt F w r [.int .i64 k0, .string k1, a, b, c, d, e, f, g, i, .int .i64 n]) : k0 = r.kind ∧ k1 = r.s ∧ n = r.n ∧ r.s.size ≤ R47 := by
  cases h with
  | mk h1 h2 h3 h4 h5 => exact ⟨rfl, rfl, rfl, h2⟩
end Go.Proofs.YtajeghkjppkhcaaGreat
