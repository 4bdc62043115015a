/-
  The unordered zip of two maps; value.MapEqualsUsing, value.MapEquals.
-/
import Derived.Test.YtajeghkjppkhcaaUzip
set_option linter.unusedVariables false
set_option linter.unusedSimpArgs false
namespace Go.Proofs.Ytajeghkjppkhcaa
open Go.RowKit
attribute [local go_sem] run_store_float run_load_k meth_Free meth_Length meth_IterateUsing meth_GetUsing meth_Has meth_Empty meth_ZipUsing

section
variable {l1 l2 : List (ByteArray × T)} {r1 r2 : Nat} {val1 val2 : ByteArray → Value} {F : Nat → Prop} {w : World} {f : FuncId} {cap : Array Value} {S : Nat → Prop} {J : List ByteArray → World → Prop} {Jf : World → Prop}

/-- what is known in a range of the unordered zip -/
structure UJ (w : World) (S : Nat → Prop) (J : List ByteArray → World → Prop) (pa : Addr) (r1 r2 : Nat) (f : FuncId) (cap : Array Value) (ks vis all : List ByteArray) (W : World) : Prop where
  j : J all W
  b : ButS S w W
  c : UCells w.heap.size pa r1 r2 f cap W
  sub : ∀ k ∈ vis, k ∈ ks
  nd : vis.Nodup

theorem UJ.below {pa : Addr} {ks vis all : List ByteArray} {W W' : World} (hs : UStep f cap l1 l2 w S J Jf) (h : UJ w S J pa r1 r2 f cap ks vis all W) (hb : Below W.heap.size W W') : UJ w S J pa r1 r2 f cap ks vis all W' :=
  ⟨hs.keep _ _ _ h.j ⟨hb.os, hb.tape, hb.output, hb.size, fun b hb' => hb.block b (Nat.lt_of_lt_of_le hb' h.b.size)⟩, h.b.trans (ButS.below (S := S) hb) (fun _ _ h => h), h.c.keep fun b hb' _ _ => hb.block b hb', h.sub, h.nd⟩
theorem UJ.butTwo {pa : Addr} {ks vis all : List ByteArray} {g : Nat} {W W' : World} (hs : UStep f cap l1 l2 w S J Jf) (h : UJ w S J pa r1 r2 f cap ks vis all W) (hg : w.heap.size + 4 ≤ g) (hk : ButTwo g W W') : UJ w S J pa r1 r2 f cap ks vis all W' := by
  have hsz := h.b.size
  refine ⟨hs.keep _ _ _ h.j ⟨hk.os, hk.tape, hk.output, hk.size, fun b hb' => hk.block b (by omega) (by omega) (by omega)⟩, ⟨hk.os.trans h.b.os, hk.tape.trans h.b.tape, hk.output.trans h.b.output, Nat.le_trans h.b.size hk.size, fun b hb' hn => (hk.block b (by omega) (by omega) (by omega)).trans (h.b.block b hb' hn)⟩, h.c.keep fun b hb' h1 h2 => hk.block b hb' (by omega) (by omega), h.sub, h.nd⟩

end

end Go.Proofs.Ytajeghkjppkhcaa
