/-
  The unordered zip of two maps, generic in the closure; value.MapEqualsUsing.
-/
import Derived.Test.YtajeghkjppkhcaaLaw
set_option linter.unusedVariables false
set_option linter.unusedSimpArgs false
namespace Go.Proofs.Ytajeghkjppkhcaa
open Go.RowKit
theorem meth_Empty (n : Nat) (v : Value) (w : World) : (method (n + 1) 149 v "Empty").run Try.prog w = .ok (95, v) w := by kernel_rfl
/-- below n the worlds agree -/
structure Same (n : Nat) (W W' : World) : Prop where
  os : W'.os = W.os
  tape : W'.tape = W.tape
  output : W'.output = W.output
  size : W.heap.size ≤ W'.heap.size
  block : ∀ b, b < n → W'.heap[b]? = W.heap[b]?

/-- what is asked of the closure of an unordered zip -/
structure UStep (f : FuncId) (cap : Array Value) (l1 l2 : List (ByteArray × T)) (w : World) (S : Nat → Prop) (J : List ByteArray → World → Prop) (Jf : World → Prop) : Prop where
  start : ∀ W, Below w.heap.size w W → J [] W
  keep : ∀ vis W W', J vis W → Same w.heap.size W W' → J vis W'
  step : ∀ vis k W lv rv, k ∈ bothK l1 l2 → k ∉ vis → J vis W → w.heap.size ≤ W.heap.size → ItemV W (getT l1 k) lv → ItemV W (getT l2 k) rv →
    Calls Try.prog f (#[.string k, lv, rv] ++ cap) W fun e W' => ((e = .returned (.bool true) ∧ J (vis ++ [k]) W') ∨ (e = .returned (.bool false) ∧ Jf W')) ∧ ButS S W W'

def UPost (l1 l2 : List (ByteArray × T)) (w : World) (S : Nat → Prop) (J : List ByteArray → World → Prop) (Jf : World → Prop) (e : Ending) (w' : World) : Prop :=
  ((e = .returned (.bool true) ∧ ∃ vis : List ByteArray, vis.Perm (bothK l1 l2) ∧ J vis w') ∨ (e = .returned (.bool false) ∧ Jf w')) ∧ ButS S w w'

/-- the cells that the closures find -/
structure UCells (n : Nat) (pa : Addr) (r1 r2 : Nat) (f : FuncId) (cap : Array Value) (W : World) : Prop where
  a : Bk W n 83 #[.iface 72 (.pointer (some pa))]
  l : Bk W (n + 1) 96 #[.iface 149 (.map (some r1))]
  r : Bk W (n + 2) 96 #[.iface 149 (.map (some r2))]
  f : Bk W (n + 3) 112 #[.func (.func f) #[] cap]
theorem UCells.keep {n : Nat} {pa : Addr} {r1 r2 : Nat} {f : FuncId} {cap : Array Value} {W W' : World} (h : UCells n pa r1 r2 f cap W) (hk : ∀ b, b < W.heap.size → n ≤ b → b < n + 4 → W'.heap[b]? = W.heap[b]?) : UCells n pa r1 r2 f cap W' :=
  ⟨(hk _ h.a.lt (by omega) (by omega)).trans h.a, (hk _ h.l.lt (by omega) (by omega)).trans h.l, (hk _ h.r.lt (by omega) (by omega)).trans h.r, (hk _ h.f.lt (by omega) (by omega)).trans h.f⟩

section
variable {f : FuncId} {cap : Array Value} (hcf : ∀ (args : Array Value) (W : World), (callFunc f args).run Try.prog W = .ok (.enter f args) W)
include hcf
end

end Go.Proofs.Ytajeghkjppkhcaa
