/-
  Several texts in one: MapsV, Mapping, MapsI.
-/
import Derived.Test.YtajeghkjppkhcaaGreatUz
set_option linter.unusedVariables false
set_option linter.unusedSimpArgs false
/-!
  value.MapEquals, and the thin package's comparisons of lists and maps.
-/

namespace Go.Proofs.YtajeghkjppkhcaaGreat
open Go.RowKit
attribute [local go_sem] run_store_float run_load_k meth_Free meth_Length meth_IterateUsing meth_GetUsing meth_Has meth_Empty meth_ZipUsing

section
variable {l1 l2 : List (ByteArray × T)} {r1 r2 : Nat} {val1 val2 : ByteArray → Value} {F : Nat → Prop} {w : World} {f : FuncId} {cap : Array Value} {S : Nat → Prop} {J : List ByteArray → World → Prop} {Jf : World → Prop}

theorem UStep.alloc (h : UStep f cap l1 l2 w S J Jf) {W : World} (hb : Below w.heap.size w W) : UStep f cap l1 l2 W S J Jf :=
  ⟨fun W' hW => h.start W' (hb.trans (hW.mono hb.size)), fun vis X X' hj hs => h.keep vis X X' hj ⟨hs.os, hs.tape, hs.output, hs.size, fun b hb' => hs.block b (Nat.lt_of_lt_of_le hb' hb.size)⟩, fun vis k X lv rv hk hnk hj hX h1 h2 => h.step vis k X lv rv hk hnk hj (Nat.le_trans hb.size hX) h1 h2⟩
theorem UPost.of_below {e : Ending} {w' W : World} (hb : Below w.heap.size w W) (h : UPost l1 l2 W S J Jf e w') : UPost l1 l2 w S J Jf e w' :=
  ⟨h.1, (ButS.below (S := S) hb).trans h.2 fun _ _ h => h⟩

end

/-- a list of the package -/
structure ListAt (F : Nat → Prop) (w : World) (A : Option Addr) (l : List T) : Prop where
  small : l.length * 88 ≤ R47
  ex : ∃ xs, Row F w 1 A l.length xs ∧ AnysAt F w l xs
theorem ListAt.up {F : Nat → Prop} {w : World} {A : Option Addr} {l : List T} (h : ListAt F w A l) (hF : ∀ b, F b → b < w.heap.size) {W : World} (hb : Below w.heap.size w W) : ListAt (Old W) W A l := by
  obtain ⟨h1, xs, h2, h3⟩ := h
  have hk : Keeps F w W := Keeps.below hb hF
  have hm : ∀ b, F b → Old W b := fun b h => Nat.lt_of_lt_of_le (hF b h) hb.size
  exact ⟨h1, xs, (h2.keeps hk).mono hm, h3.keeps hk hm⟩
theorem ListAt.of_any {F : Nat → Prop} {w : World} {l : List T} {v : Value} (h : AnyAt F w (.list l) v) : ∃ A c, v = .iface 254 (.slice A l.length c) ∧ ListAt F w A l := by
  cases h with
  | list h1 h2 h3 h4 h5 => exact ⟨_, _, rfl, h1, _, h4, h5⟩
end Go.Proofs.YtajeghkjppkhcaaGreat

/-!
  impl.toMapping, impl.toList; a value's fields as a map of the package.
-/

namespace Go.Proofs.YtajeghkjppkhcaaGreat
open Go.RowKit
attribute [local go_sem] run_store_float run_load_k

/-- the fields of a value, whatever its kind is -/
def RV.flds : RV → List (ByteArray × T)
  | .mk _ _ _ _ keys l => mapOf keys (l.map RV.tree)
/-- an interface value that is the package's map of these fields -/
def MapV (F : Nat → Prop) (w : World) (l : List (ByteArray × T)) (v : Value) : Prop := ∃ r val, v = .iface 363 (.map (some r)) ∧ MapAt F w r l val
theorem MapV.old {F : Nat → Prop} {W : World} {l : List (ByteArray × T)} {v : Value} (h : MapV F W l v) (hF : ∀ b, F b → b < W.heap.size) : MapV (Old W) W l v := by
  obtain ⟨r, val, rfl, h⟩ := h
  exact ⟨r, val, rfl, h.mono hF⟩
theorem MapV.at_ {w W : World} {l : List (ByteArray × T)} {v : Value} (h : MapV (Old w) w l v) (hb : Below w.heap.size w W) : MapV (Old W) W l v := by
  obtain ⟨r, val, rfl, h⟩ := h
  exact ⟨r, val, rfl, (h.below (fun _ h => h) hb).mono fun _ h => Nat.lt_of_lt_of_le h hb.size⟩
end Go.Proofs.YtajeghkjppkhcaaGreat

/-!
  impl.CompareMaps, impl.EqualMaps: what they return, of every two values.
-/

namespace Go.Proofs.YtajeghkjppkhcaaGreat
open Go.RowKit


end Go.Proofs.YtajeghkjppkhcaaGreat
