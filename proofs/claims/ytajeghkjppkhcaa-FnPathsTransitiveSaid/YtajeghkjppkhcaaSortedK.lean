/-
  impl.sortedKeys at any: the keys of a map, in increasing order, in a new row.
-/
import Derived.Test.YtajeghkjppkhcaaZip
set_option linter.unusedVariables false
set_option linter.unusedSimpArgs false
namespace Go.Proofs.Ytajeghkjppkhcaa
open Go.RowKit

/-- at the head of the inner loop -/
def SKIn (w : World) (r : Nat) (ks : List ByteArray) (val : ByteArray → Value) (left U : List ByteArray) (gr n c i : Nat) (s5 : Value) (W : World) : Prop :=
  ∃ L j, s5 = .int .i64 ((j : Nat) : Int) ∧ L.Perm U ∧ InsInv L i j ∧ L.length = n ∧ MapRange W w.heap.size r ks val left ∧ W.ownsRow (w.heap.size + 1) 9 1 (.slice (some ⟨gr, 0, none⟩) n c) n (L.map Value.string) ∧ Below w.heap.size w W

theorem SKIn.drewN {w W : World} {r gr n c i : Nat} {ks left U : List ByteArray} {val : ByteArray → Value} {s : Value} (h : SKIn w r ks val left U gr n c i s W) (q : Nat) : SKIn w r ks val left U gr n c i s (W.drewN q) := by
  obtain ⟨L, j, h1, h2, h3, h4, h5, h6, hb⟩ := h
  exact ⟨L, j, h1, h2, h3, h4, h5.keep rfl rfl, h6, ⟨hb.os, hb.tape, hb.output, hb.size, hb.block⟩⟩

end Go.Proofs.Ytajeghkjppkhcaa
