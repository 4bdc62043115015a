/-
  The package's scalars: which values numeric, string, boolean and untyped let in.
-/
import Derived.Test.YtekaainjpddklaaValue
namespace Go.Proofs.Ytekaainjpddklaa
open Go.RowKit
attribute [local go_sem] run_store_float run_load_k meth_IsNull meth_IsFloat meth_IsInt meth_IsString meth_IsBool

/-- what a scalar kind says of a value -/
def GivesFit (b : Bool) (w : World) (e : Ending) (w' : World) : Prop := ∃ A c, e = .returned (.slice A (if b then 0 else 1) c) ∧ Below w.heap.size w w'

def wNum : ByteArray := ⟨#[110, 117, 109, 101, 114, 105, 99]⟩
def T.fitsNum (t : T) : Bool := t.isNull || (t.isFlt || t.isInt)
def wStr : ByteArray := ⟨#[115, 116, 114, 105, 110, 103]⟩
def T.fitsStr (t : T) : Bool := t.isNull || (t.isStr)
def wBoo : ByteArray := ⟨#[98, 111, 111, 108, 101, 97, 110]⟩
def T.fitsBoo (t : T) : Bool := t.isNull || (t.isBool)
def wUnt : ByteArray := ⟨#[117, 110, 116, 121, 112, 101, 100]⟩
def T.fitsUnt (t : T) : Bool := t.isNull || (t.isFlt || t.isInt || t.isStr || t.isBool)

set_option maxRecDepth 100000 in
theorem errorf_calls (s : ByteArray) (w : World) : Calls Try.prog 131 #[.string s] w fun e w' => ∃ A c o, e = .returned (.slice A 1 c) ∧ w.alloc o = w' := by
  go_enter Try.func131, Try.ntmps131
  go_wp2
  go_ret
  exact ⟨_, _, _, rfl, rfl⟩
attribute [local go_sem] T.isNull T.isFlt T.isInt T.isStr T.isBool

/-- the value's cell, the kind's cell, and what stood -/
def St (w : World) (p g : Nat) (u s : Value) (W : World) : Prop := W.cell? ⟨p, 0, none⟩ = some u ∧ W.cell? ⟨g, 0, none⟩ = some s ∧ Below w.heap.size w W
theorem St.call {w W : World} {p g : Nat} {u s v : Value} {f : FuncId} {args : Array Value} {o : Obj} (h : St w p g u s W) (hp : p < w.heap.size) (hg : g < w.heap.size) (hc : Calls Try.prog f args W fun e W' => e = .returned v ∧ W.alloc o = W') :
    Calls Try.prog f args W fun e W' => e = .returned v ∧ St w p g u s W' := by
  refine hc.mono ?_
  rintro e W' ⟨rfl, rfl⟩
  have hs := h.2.2.size
  exact ⟨rfl, (World.cell?_alloc_lt W o ⟨p, 0, none⟩ (by show p < _; omega)).trans h.1, (World.cell?_alloc_lt W o ⟨g, 0, none⟩ (by show g < _; omega)).trans h.2.1, h.2.2.alloc hs _⟩

end Go.Proofs.Ytekaainjpddklaa
