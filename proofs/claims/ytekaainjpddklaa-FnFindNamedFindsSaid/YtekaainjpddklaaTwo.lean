/-
  Two structs in blocks of their own.
-/
import Derived.Test.YtekaainjpddklaaLaw
set_option linter.unusedVariables false
set_option linter.unusedSimpArgs false
namespace Go.Proofs.Ytekaainjpddklaa
open Go.RowKit

/-- two structs, each a block of its own -/
structure B2 (w : World) (t : TypeId) (a0 a1 a2 a3 a4 a5 b0 b1 b2 b3 b4 b5 : Value) (W : World) : Prop where
  below : Below w.heap.size w W
  a : Bk W w.heap.size t #[a0, a1, a2, a3, a4, a5]
  b : Bk W (w.heap.size + 1) t #[b0, b1, b2, b3, b4, b5]
section
variable {w W W' : World} {t : TypeId} {a0 a1 a2 a3 a4 a5 b0 b1 b2 b3 b4 b5 : Value}
theorem B2.call (h : B2 w t a0 a1 a2 a3 a4 a5 b0 b1 b2 b3 b4 b5 W) (hb : Below W.heap.size W W') : B2 w t a0 a1 a2 a3 a4 a5 b0 b1 b2 b3 b4 b5 W' :=
  ⟨h.below.trans (hb.mono h.below.size), h.a.below hb h.a.lt, h.b.below hb h.b.lt⟩
theorem B2.made (w : World) (t : TypeId) (a0 a1 a2 a3 a4 a5 b0 b1 b2 b3 b4 b5 : Value) : B2 w t a0 a1 a2 a3 a4 a5 b0 b1 b2 b3 b4 b5 ((w.alloc (.cells #[a0, a1, a2, a3, a4, a5] t)).alloc (.cells #[b0, b1, b2, b3, b4, b5] t)) := by
  refine ⟨below_two w _ _, (Bk.new _ _ _).alloc _, ?_⟩
  have := Bk.new (w.alloc (.cells #[a0, a1, a2, a3, a4, a5] t)) t #[b0, b1, b2, b3, b4, b5]
  simpa only [World.size_alloc] using this
theorem B2.kind (h : B2 w t a0 a1 a2 a3 a4 a5 b0 b1 b2 b3 b4 b5 W) (u v : Value) :
    B2 w t u a1 a2 a3 a4 a5 v b1 b2 b3 b4 b5 ((W.setCell ⟨w.heap.size, 0, none⟩ u).setCell ⟨w.heap.size + 1, 0, none⟩ v) := by
  have h1 := (h.a.set_ 0 u).far (p := ⟨w.heap.size + 1, 0, none⟩) (by show w.heap.size ≠ w.heap.size + 1; omega) v
  have h2 := (h.b.far (p := ⟨w.heap.size, 0, none⟩) (by show w.heap.size + 1 ≠ w.heap.size; omega) u).set_ 0 v
  simp at h1 h2
  exact ⟨(h.below.setCell (by show w.heap.size ≤ w.heap.size; omega) _).setCell (by show w.heap.size ≤ w.heap.size + 1; omega) _, h1, h2⟩
theorem B2.size2 (h : B2 w t a0 a1 a2 a3 a4 a5 b0 b1 b2 b3 b4 b5 W) : w.heap.size + 2 ≤ W.heap.size := h.b.lt
end


end Go.Proofs.Ytekaainjpddklaa
