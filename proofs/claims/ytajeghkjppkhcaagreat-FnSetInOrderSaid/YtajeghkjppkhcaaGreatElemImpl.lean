/-
  impl.CompareElems, impl.EqualElems.
-/
import Derived.Test.YtajeghkjppkhcaaGreatElemCmp
set_option linter.unusedVariables false
set_option linter.unusedSimpArgs false
namespace Go.Proofs.YtajeghkjppkhcaaGreat
open Go.RowKit
attribute [local go_sem] run_store_float

/-- a step's struct in a block -/
theorem Bk.cells11 {W : World} {g : Nat} {t : TypeId} {x0 x1 x2 x3 x4 x5 x6 x7 x8 x9 x10 : Value} (h : Bk W g t #[x0, x1, x2, x3, x4, x5, x6, x7, x8, x9, x10]) : W.cell? ⟨g, 0, none⟩ = some x0 ∧ W.cell? ⟨g, 1, none⟩ = some x1 ∧ W.cell? ⟨g, 2, none⟩ = some x2 ∧ W.cell? ⟨g, 3, none⟩ = some x3 ∧ W.cell? ⟨g, 4, none⟩ = some x4 ∧ W.cell? ⟨g, 5, none⟩ = some x5 ∧ W.cell? ⟨g, 6, none⟩ = some x6 ∧ W.cell? ⟨g, 7, none⟩ = some x7 ∧ W.cell? ⟨g, 8, none⟩ = some x8 ∧ W.cell? ⟨g, 9, none⟩ = some x9 ∧ W.cell? ⟨g, 10, none⟩ = some x10 := ⟨h.cell 0, h.cell 1, h.cell 2, h.cell 3, h.cell 4, h.cell 5, h.cell 6, h.cell 7, h.cell 8, h.cell 9, h.cell 10⟩

/-- two steps' structs, each a block of its own -/
structure BB (w : World) (t : TypeId) (a b : Array Value) (W : World) : Prop where
  below : Below w.heap.size w W
  a : Bk W w.heap.size t a
  b : Bk W (w.heap.size + 1) t b
theorem BB.call {w W W' : World} {t : TypeId} {a b : Array Value} (h : BB w t a b W) (hb : Below W.heap.size W W') : BB w t a b W' :=
  ⟨h.below.trans (hb.mono h.below.size), h.a.below hb h.a.lt, h.b.below hb h.b.lt⟩
theorem BB.made (w : World) (t : TypeId) (a b : Array Value) : BB w t a b ((w.alloc (.cells a t)).alloc (.cells b t)) := by
  refine ⟨below_two w _ _, (Bk.new _ _ _).alloc _, ?_⟩
  have := Bk.new (w.alloc (.cells a t)) t b
  simpa only [World.size_alloc] using this

end Go.Proofs.YtajeghkjppkhcaaGreat
