/-
  Arguments of the thin package's types Path (a slice of steps) and []Path, as a row reads them.
-/
import Derived.Test.YtajeghkjppkhcaaRowE
import Derived.Test.YtajeghkjppkhcaaPathM
set_option linter.unusedVariables false
set_option linter.unusedSimpArgs false
namespace Go.Proofs.Ytajeghkjppkhcaa
open Go.RowKit Go.ChangeShapes Go.WideShapes

section
variable {H : Type} {enc : TypeId × Value → H} {w : World}

theorem open_path {fuel : Nat} {cs : List Value} {d : DataW H} {ps : List MemPlace} (h : DataW.trod enc Try.prog w 0 (fun _ => true) true fuel 22 cs = some (d, ps)) (hw : Small 22 d) :
    ∃ (A : Option Addr) (l : List REl) (c : Nat), cs = [.slice A l.length c] ∧ PathAt (Old w) w l A c := by
  obtain ⟨LA, len, lc, n', L, rfl, rfl, l1, l2, l3, l4, l5, l6, l7⟩ := open_slice (size := 11) (bytes := 168) Try.underlying22 (by kernel_rfl) (by kernel_rfl) (by decide) h hw
  have hall : ∀ i, i < len → ∃ r : REl, ∀ x, L[i]? = some x → ElemAt (Old w) w r x := by
    intro i hi
    obtain ⟨x, hx⟩ : ∃ x, L[i]? = some x := ⟨_, List.getElem?_eq_getElem (by omega)⟩
    obtain ⟨d', p', h8, h9⟩ := l7 i x hx
    obtain ⟨r, hr⟩ := open_elem h8 h9
    refine ⟨r, fun y hy => ?_⟩
    rw [hx] at hy
    exact Option.some.inj hy ▸ hr
  have : Inhabited REl := ⟨⟨0, ⟨#[]⟩, [], [], vNull, 0⟩⟩
  obtain ⟨f, hf'⟩ := Deep.choose_lt hall
  subst l4
  have hll : ((List.range L.length).map f).length = L.length := by simp
  refine ⟨LA, (List.range L.length).map f, lc, by rw [hll], by rw [hll]; exact l3, by rw [hll]; exact l1, l2, L.flatten, by rw [hll]; exact l5, by rw [hll]; exact l5.1, ?_⟩
  intro i r hr
  rw [List.getElem?_map] at hr
  obtain ⟨j, hj, rfl⟩ := Option.map_eq_some_iff.1 hr
  obtain ⟨hj1, hj2⟩ := List.getElem?_eq_some_iff.1 hj
  simp at hj1 hj2
  subst hj2
  have hx : L[i]? = some L[i] := List.getElem?_eq_getElem hj1
  rw [flat_part (by decide) L l6 i _ hx]
  exact hf' i hj1 _ hx

set_option maxRecDepth 100000 in
theorem open_Path {base : Nat} {v : Value} {d : DataW H} {ps : List MemPlace} (h : DataW.Trod enc Try.prog w 0 (fun _ => true) true 22 v d ps) (hw : Small 22 d) (hok : Value.okWide Try.prog w .any base 22 v) : ∃ A l c, v = .slice A l.length c ∧ PathAt (Old w) w l A c := by
  obtain ⟨fuel, hf⟩ := h
  obtain ⟨A, l, c, e, hs⟩ := open_path hf hw
  obtain ⟨a, n, m, rfl⟩ := okWide_slice Try.underlying22 hok
  simp only [Value.cells, List.cons.injEq, and_true] at e
  exact ⟨A, l, c, e, hs⟩

end
end Go.Proofs.Ytajeghkjppkhcaa
