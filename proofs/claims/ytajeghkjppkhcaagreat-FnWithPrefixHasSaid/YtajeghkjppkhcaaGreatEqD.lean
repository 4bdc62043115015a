/-
  Several texts in one: MapEq, EqAll.
-/
import Derived.Test.YtajeghkjppkhcaaGreatBaseO
import Derived.Test.YtajeghkjppkhcaaGreatZip
import Derived.Test.YtajeghkjppkhcaaGreatCz
import Derived.StillTailTactics
import Derived.Test.YtajeghkjppkhcaaGreatListEq
import Derived.Test.YtajeghkjppkhcaaGreatCmpD
import Derived.Test.YtajeghkjppkhcaaGreatEqAB
set_option linter.unusedVariables false
set_option linter.unusedSimpArgs false
/-!
  EqualsUsing of the package's map.
-/

namespace Go.Proofs.YtajeghkjppkhcaaGreat
open Go.RowKit
attribute [local go_sem] run_store_float run_load_k meth_allocVu meth_Free meth_Length meth_IterateUsing

/-- the cells that the closure finds: the map, the allocator, the value, the pointer to it -/
structure EqCells (n r : Nat) (pa : Addr) (W : World) : Prop where
  m : Bk W n 363 #[.map (some r)]
  a : Bk W (n + 1) 299 #[.iface 250 (.pointer (some pa))]
  v : ∃ x, Bk W (n + 2) 289 #[x]
  p : Bk W (n + 3) 249 #[.pointer (some ⟨n + 2, 0, none⟩)]
theorem EqCells.keep {n r : Nat} {pa : Addr} {W W' : World} (h : EqCells n r pa W) (hk : ∀ b, b < W.heap.size → n ≤ b → b < n + 4 → W'.heap[b]? = W.heap[b]?) : EqCells n r pa W' := by
  obtain ⟨x, hx⟩ := h.v
  exact ⟨(hk _ h.m.lt (by omega) (by omega)).trans h.m, (hk _ h.a.lt (by omega) (by omega)).trans h.a, ⟨x, (hk _ hx.lt (by omega) (by omega)).trans hx⟩, (hk _ h.p.lt (by omega) (by omega)).trans h.p⟩
theorem EqCells.set_ {n r : Nat} {pa : Addr} {W : World} (h : EqCells n r pa W) (u : Value) : EqCells n r pa (W.setCell ⟨n + 2, 0, none⟩ u) := by
  obtain ⟨x, hx⟩ := h.v
  exact ⟨h.m.far (by simp) _, h.a.far (by simp) _, ⟨u, by simpa using hx.set_ 0 u⟩, h.p.far (by simp) _⟩

/-- the cells that the closure's call loads -/
structure MeLoads (n : Nat) (pa : Addr) (W : World) : Prop where
  a : W.cell? ⟨n + 1, 0, none⟩ = some (.iface 250 (.pointer (some pa)))
  p : W.cell? ⟨n + 3, 0, none⟩ = some (.pointer (some ⟨n + 2, 0, none⟩))
theorem EqCells.loads {n r : Nat} {pa : Addr} {W : World} (h : EqCells n r pa W) : MeLoads n pa W := ⟨h.a.cell 0, h.p.cell 0⟩

end Go.Proofs.YtajeghkjppkhcaaGreat

/-!
  value.EqualsUsing of two lists, of two maps; and of every two values.
-/

namespace Go.Proofs.YtajeghkjppkhcaaGreat
open Go.RowKit
theorem meth_MEqualsUsing (n : Nat) (v : Value) (w : World) : (method (n + 1) 363 v "EqualsUsing").run Tryz.prog w = .ok (282, v) w := by kernel_rfl
attribute [local go_sem] run_store_float run_load_k meth_IsNull meth_IsFloat meth_IsInt meth_IsString meth_IsBool meth_IsList meth_IsMap meth_AsMapUsing meth_AsListUsing meth_Free meth_LEqualsUsing meth_MEqualsUsing

attribute [local go_sem] T.isNull T.isFlt T.isInt T.isStr T.isBool T.isList T.isMap

end Go.Proofs.YtajeghkjppkhcaaGreat
