/-
  Several texts in one: Uzip, Uzip2.
-/
import Derived.Test.YtajeghkjppkhcaaGreatLaw
set_option linter.unusedVariables false
set_option linter.unusedSimpArgs false
/-!
  The unordered zip of two maps, generic in the closure; value.MapEqualsUsing.
-/

namespace Go.Proofs.YtajeghkjppkhcaaGreat
open Go.RowKit
theorem meth_Empty (n : Nat) (v : Value) (w : World) : (method (n + 1) 363 v "Empty").run Tryz.prog w = .ok (280, v) w := by kernel_rfl
attribute [local go_sem] run_store_float run_load_k meth_Free meth_Length meth_IterateUsing meth_GetUsing meth_Has meth_Empty meth_ZipUsing

/-- below n the worlds agree -/
structure Same (n : Nat) (W W' : World) : Prop where
  os : W'.os = W.os
  tape : W'.tape = W.tape
  output : W'.output = W.output
  size : W.heap.size ≤ W'.heap.size
  block : ∀ b, b < n → W'.heap[b]? = W.heap[b]?

/-- what is asked of the closure of an unordered zip -/
structure UStep (f : FuncId) (cap : Array Value) (l1 l2 : List (ByteArray × T)) (w : World) (S : Nat → Prop) (J : List ByteArray → World → Prop) (Jf : World → Prop) : Prop where
  start : ∀ W, Below w.heap.size w W → J [] W
  keep : ∀ vis W W', J vis W → Same w.heap.size W W' → J vis W'
  step : ∀ vis k W lv rv, k ∈ bothK l1 l2 → k ∉ vis → J vis W → w.heap.size ≤ W.heap.size → ItemV W (getT l1 k) lv → ItemV W (getT l2 k) rv →
    Calls Tryz.prog f (#[.string k, lv, rv] ++ cap) W fun e W' => ((e = .returned (.bool true) ∧ J (vis ++ [k]) W') ∨ (e = .returned (.bool false) ∧ Jf W')) ∧ ButS S W W'

def UPost (l1 l2 : List (ByteArray × T)) (w : World) (S : Nat → Prop) (J : List ByteArray → World → Prop) (Jf : World → Prop) (e : Ending) (w' : World) : Prop :=
  ((e = .returned (.bool true) ∧ ∃ vis : List ByteArray, vis.Perm (bothK l1 l2) ∧ J vis w') ∨ (e = .returned (.bool false) ∧ Jf w')) ∧ ButS S w w'

/-- the cells that the closures find -/
structure UCells (n : Nat) (pa : Addr) (r1 r2 : Nat) (f : FuncId) (cap : Array Value) (W : World) : Prop where
  a : Bk W n 299 #[.iface 250 (.pointer (some pa))]
  l : Bk W (n + 1) 310 #[.iface 363 (.map (some r1))]
  r : Bk W (n + 2) 310 #[.iface 363 (.map (some r2))]
  f : Bk W (n + 3) 324 #[.func (.func f) #[] cap]
theorem UCells.keep {n : Nat} {pa : Addr} {r1 r2 : Nat} {f : FuncId} {cap : Array Value} {W W' : World} (h : UCells n pa r1 r2 f cap W) (hk : ∀ b, b < W.heap.size → n ≤ b → b < n + 4 → W'.heap[b]? = W.heap[b]?) : UCells n pa r1 r2 f cap W' :=
  ⟨(hk _ h.a.lt (by omega) (by omega)).trans h.a, (hk _ h.l.lt (by omega) (by omega)).trans h.l, (hk _ h.r.lt (by omega) (by omega)).trans h.r, (hk _ h.f.lt (by omega) (by omega)).trans h.f⟩

section
variable {f : FuncId} {cap : Array Value} (hcf : ∀ (args : Array Value) (W : World), (callFunc f args).run Tryz.prog W = .ok (.enter f args) W)
include hcf
end

end Go.Proofs.YtajeghkjppkhcaaGreat

/-!
  The unordered zip of two maps; value.MapEqualsUsing, value.MapEquals.
-/

namespace Go.Proofs.YtajeghkjppkhcaaGreat
open Go.RowKit
attribute [local go_sem] run_store_float run_load_k meth_Free meth_Length meth_IterateUsing meth_GetUsing meth_Has meth_Empty meth_ZipUsing

section
variable {l1 l2 : List (ByteArray × T)} {r1 r2 : Nat} {val1 val2 : ByteArray → Value} {F : Nat → Prop} {w : World} {f : FuncId} {cap : Array Value} {S : Nat → Prop} {J : List ByteArray → World → Prop} {Jf : World → Prop}

/-- what is known in a range of the unordered zip -/
structure UJ (w : World) (S : Nat → Prop) (J : List ByteArray → World → Prop) (pa : Addr) (r1 r2 : Nat) (f : FuncId) (cap : Array Value) (ks vis all : List ByteArray) (W : World) : Prop where
  j : J all W
  b : ButS S w W
  c : UCells w.heap.size pa r1 r2 f cap W
  sub : ∀ k ∈ vis, k ∈ ks
  nd : vis.Nodup

theorem ButS.keepsF (hF : ∀ b, F b → b < w.heap.size ∧ ¬ S b) {W : World} (h : ButS S w W) : Keeps F w W := fun b hb => h.block b (hF b hb).1 (hF b hb).2
theorem UJ.below {pa : Addr} {ks vis all : List ByteArray} {W W' : World} (hs : UStep f cap l1 l2 w S J Jf) (h : UJ w S J pa r1 r2 f cap ks vis all W) (hb : Below W.heap.size W W') : UJ w S J pa r1 r2 f cap ks vis all W' :=
  ⟨hs.keep _ _ _ h.j ⟨hb.os, hb.tape, hb.output, hb.size, fun b hb' => hb.block b (Nat.lt_of_lt_of_le hb' h.b.size)⟩, h.b.trans (ButS.below (S := S) hb) (fun _ _ h => h), h.c.keep fun b hb' _ _ => hb.block b hb', h.sub, h.nd⟩
theorem UJ.butTwo {pa : Addr} {ks vis all : List ByteArray} {g : Nat} {W W' : World} (hs : UStep f cap l1 l2 w S J Jf) (h : UJ w S J pa r1 r2 f cap ks vis all W) (hg : w.heap.size + 4 ≤ g) (hk : ButTwo g W W') : UJ w S J pa r1 r2 f cap ks vis all W' := by
  have hsz := h.b.size
  refine ⟨hs.keep _ _ _ h.j ⟨hk.os, hk.tape, hk.output, hk.size, fun b hb' => hk.block b (by omega) (by omega) (by omega)⟩, ⟨hk.os.trans h.b.os, hk.tape.trans h.b.tape, hk.output.trans h.b.output, Nat.le_trans h.b.size hk.size, fun b hb' hn => (hk.block b (by omega) (by omega) (by omega)).trans (h.b.block b hb' hn)⟩, h.c.keep fun b hb' h1 h2 => hk.block b hb' (by omega) (by omega), h.sub, h.nd⟩

end

end Go.Proofs.YtajeghkjppkhcaaGreat
