/-
  Several texts in one: RowE, RowP, RowPs.
-/
import Derived.Test.YtajeghkjppkhcaaGreatRow
import Derived.Test.YtajeghkjppkhcaaGreatElemM
import Derived.Test.YtajeghkjppkhcaaGreatPathMC
set_option linter.unusedVariables false
set_option linter.unusedSimpArgs false
/-!
  An argument of the thin package's type Elem, as a row reads it.
-/

namespace Go.Proofs.YtajeghkjppkhcaaGreat
open Go.RowKit Go.ChangeShapes Go.WideShapes

section
variable {H : Type} {enc : TypeId × Value → H} {w : World}

/-- a slice of values -/
theorem open_values {fuel : Nat} {cs : List Value} {d : DataW H} {ps : List MemPlace} (h : DataW.trod enc Tryz.prog w 0 (fun _ => true) true fuel 27 cs = some (d, ps)) (hw : Small 27 d) :
    ∃ (A : Option Addr) (l : List RV) (c : Nat) (xs : List Value), cs = [.slice A l.length c] ∧ l.length ≤ c ∧ c ≤ maxLen ∧ l.length * 88 ≤ R47 ∧ Row (Old w) w 6 A l.length xs ∧ ∀ i r, l[i]? = some r → RVAt (Old w) w r ((xs.drop (i * 6)).take 6) := by
  obtain ⟨LA, len, lc, n', L, rfl, rfl, l1, l2, l3, l4, l5, l6, l7⟩ := open_slice (size := 6) (bytes := 88) Tryz.underlying27 (by kernel_rfl) (by kernel_rfl) (by decide) h hw
  have hall : ∀ i, i < len → ∃ r : RV, ∀ x, L[i]? = some x → RVAt (Old w) w r x := by
    intro i hi
    obtain ⟨x, hx⟩ : ∃ x, L[i]? = some x := ⟨_, List.getElem?_eq_getElem (by omega)⟩
    obtain ⟨d', p', h8, h9⟩ := l7 i x hx
    obtain ⟨r, hr⟩ := open_value (n' + 1) n' x d' p' (by omega) h8 h9
    refine ⟨r, fun y hy => ?_⟩
    rw [hx] at hy
    exact Option.some.inj hy ▸ hr
  have : Inhabited RV := ⟨.mk 0 0 0 ⟨#[]⟩ [] []⟩
  obtain ⟨f, hf'⟩ := Deep.choose_lt hall
  subst l4
  have hll : ((List.range L.length).map f).length = L.length := by simp
  refine ⟨LA, (List.range L.length).map f, lc, L.flatten, by rw [hll], by rw [hll]; exact l1, l2, by rw [hll]; exact l3, by rw [hll]; exact l5, ?_⟩
  intro i r hr
  rw [List.getElem?_map] at hr
  obtain ⟨j, hj, rfl⟩ := Option.map_eq_some_iff.1 hr
  obtain ⟨hj1, hj2⟩ := List.getElem?_eq_some_iff.1 hj
  simp at hj1 hj2
  subst hj2
  have hx : L[i]? = some L[i] := List.getElem?_eq_getElem hj1
  rw [flat_part (by decide) L l6 i _ hx]
  exact hf' i hj1 _ hx

set_option maxRecDepth 100000 in
/-- a step of the thin package, as a row reads it -/
theorem open_elem {fuel : Nat} {cs : List Value} {d : DataW H} {ps : List MemPlace} (h : DataW.trod enc Tryz.prog w 0 (fun _ => true) true fuel 33 cs = some (d, ps)) (hw : Small 33 d) : ∃ r, ElemAt (Old w) w r cs := by
  obtain ⟨xs, n, rfl, rfl, hl, hlen, hf⟩ := open_struct (l := [(3, 0, 1), (9, 1, 1), (28, 2, 1), (27, 3, 1), (31, 4, 6), (3, 10, 1)]) Tryz.underlying33 (by kernel_rfl) h
  have hws := hw.struct Tryz.underlying33
  rw [show Tryz.prog.cellsOf 33 = 11 from by kernel_rfl] at hl
  obtain ⟨u0, u1, u2, u3, u4, u5, u6, u7, u8, u9, u10, rfl⟩ : ∃ u0 u1 u2 u3 u4 u5 u6 u7 u8 u9 u10, cs = [u0, u1, u2, u3, u4, u5, u6, u7, u8, u9, u10] := by
    match cs, hl with
    | [u0, u1, u2, u3, u4, u5, u6, u7, u8, u9, u10], _ => exact ⟨u0, u1, u2, u3, u4, u5, u6, u7, u8, u9, u10, rfl⟩
  obtain ⟨y0, y1, y2, y3, y4, y5, rfl⟩ : ∃ y0 y1 y2 y3 y4 y5, xs = [y0, y1, y2, y3, y4, y5] := by
    match xs, hlen with
    | [y0, y1, y2, y3, y4, y5], _ => exact ⟨y0, y1, y2, y3, y4, y5, rfl⟩
  have g0 := hf 0 _ _ _ rfl
  have g1 := hf 1 _ _ _ rfl
  have g2 := hf 2 _ _ _ rfl
  have g3 := hf 3 _ _ _ rfl
  have g4 := hf 4 _ _ _ rfl
  have g5 := hf 5 _ _ _ rfl
  simp only [List.drop_succ_cons, List.drop_zero, List.take_succ_cons, List.take_zero, List.getElem?_cons_succ, List.getElem?_cons_zero] at g0 g1 g2 g3 g4 g5
  have w1 := hws.part 1 (d := y1.1) rfl rfl
  have w2 := hws.part 2 (d := y2.1) rfl rfl
  have w3 := hws.part 3 (d := y3.1) rfl rfl
  have w4 := hws.part 4 (d := y4.1) rfl rfl
  obtain ⟨n0, e0, -, o0⟩ := DataW.trod_int Tryz.underlying3 g0
  obtain ⟨s1, e1, x1, -⟩ := DataW.trod_string Tryz.underlying9 g1
  obtain ⟨KA, keys, kc, e2, k1, k2, k3, k4, k5⟩ := open_keys (d := y2.1) (ps := y2.2) g2 w2
  obtain ⟨LA, l, lc, xs, e3, l1, l2, l3, l4, l5⟩ := open_values (d := y3.1) (ps := y3.2) g3 w3
  obtain ⟨v, hv⟩ := open_value (n + 1) n _ y4.1 y4.2 (by omega) g4 w4
  obtain ⟨n5, e5, -, o5⟩ := DataW.trod_int Tryz.underlying3 g5
  rw [x1] at w1
  simp only [List.cons.injEq, and_true] at e0 e1 e2 e3 e5
  subst e0; subst e1; subst e2; subst e3; subst e5
  obtain ⟨v0, v1, v2, v3, vA, vn, vc, vB, vm, vd, ev⟩ := hv.form
  simp only [List.cons.injEq, and_true] at ev
  obtain ⟨rfl, rfl, rfl, rfl, rfl, rfl⟩ := ev
  exact ⟨_, .mk (okInt_of_wf o0) w1.str (.mk i0 i0 (by decide) (by decide) k4 k3 l3 k1 k2 l1 l2 k5 l4 l5) hv (okInt_of_wf o5)⟩

theorem open_Elem {v : Value} {d : DataW H} {ps : List MemPlace} (h : DataW.Trod enc Tryz.prog w 0 (fun _ => true) true 33 v d ps) (hw : Small 33 d) : ∃ r cs, v = .agg cs.toArray ∧ ElemAt (Old w) w r cs := by
  obtain ⟨fuel, hf⟩ := h
  obtain ⟨r, hr⟩ := open_elem hf hw
  refine ⟨r, v.cells.toList, ?_, hr⟩
  obtain ⟨a0, a1, a2, a3, a4, a5, a6, a7, a8, a9, aa, ab, ac, ad, ae, af, ag, ah, ai, e⟩ := hr.form
  cases v
  case agg vs => rw [show (Value.agg vs).cells = vs from rfl, Array.toArray_toList]
  all_goals simp [Value.cells] at e

end
end Go.Proofs.YtajeghkjppkhcaaGreat

/-!
  Arguments of the thin package's types Path (a slice of steps) and []Path, as a row reads them.
-/

namespace Go.Proofs.YtajeghkjppkhcaaGreat
open Go.RowKit Go.ChangeShapes Go.WideShapes

section
variable {H : Type} {enc : TypeId × Value → H} {w : World}

theorem open_path {fuel : Nat} {cs : List Value} {d : DataW H} {ps : List MemPlace} (h : DataW.trod enc Tryz.prog w 0 (fun _ => true) true fuel 22 cs = some (d, ps)) (hw : Small 22 d) :
    ∃ (A : Option Addr) (l : List REl) (c : Nat), cs = [.slice A l.length c] ∧ PathAt (Old w) w l A c := by
  obtain ⟨LA, len, lc, n', L, rfl, rfl, l1, l2, l3, l4, l5, l6, l7⟩ := open_slice (size := 11) (bytes := 168) Tryz.underlying22 (by kernel_rfl) (by kernel_rfl) (by decide) h hw
  have hall : ∀ i, i < len → ∃ r : REl, ∀ x, L[i]? = some x → ElemAt (Old w) w r x := by
    intro i hi
    obtain ⟨x, hx⟩ : ∃ x, L[i]? = some x := ⟨_, List.getElem?_eq_getElem (by omega)⟩
    obtain ⟨d', p', h8, h9⟩ := l7 i x hx
    obtain ⟨r, hr⟩ := open_elem h8 h9
    refine ⟨r, fun y hy => ?_⟩
    rw [hx] at hy
    exact Option.some.inj hy ▸ hr
  have : Inhabited REl := ⟨⟨0, ⟨#[]⟩, [], [], vNull, 0⟩⟩
  obtain ⟨f, hf'⟩ := Deep.choose_lt hall
  subst l4
  have hll : ((List.range L.length).map f).length = L.length := by simp
  refine ⟨LA, (List.range L.length).map f, lc, by rw [hll], by rw [hll]; exact l3, by rw [hll]; exact l1, l2, L.flatten, by rw [hll]; exact l5, by rw [hll]; exact l5.1, ?_⟩
  intro i r hr
  rw [List.getElem?_map] at hr
  obtain ⟨j, hj, rfl⟩ := Option.map_eq_some_iff.1 hr
  obtain ⟨hj1, hj2⟩ := List.getElem?_eq_some_iff.1 hj
  simp at hj1 hj2
  subst hj2
  have hx : L[i]? = some L[i] := List.getElem?_eq_getElem hj1
  rw [flat_part (by decide) L l6 i _ hx]
  exact hf' i hj1 _ hx

set_option maxRecDepth 100000 in
theorem open_Path {base : Nat} {v : Value} {d : DataW H} {ps : List MemPlace} (h : DataW.Trod enc Tryz.prog w 0 (fun _ => true) true 22 v d ps) (hw : Small 22 d) (hok : Value.okWide Tryz.prog w .any base 22 v) : ∃ A l c, v = .slice A l.length c ∧ PathAt (Old w) w l A c := by
  obtain ⟨fuel, hf⟩ := h
  obtain ⟨A, l, c, e, hs⟩ := open_path hf hw
  obtain ⟨a, n, m, rfl⟩ := okWide_slice Tryz.underlying22 hok
  simp only [Value.cells, List.cons.injEq, and_true] at e
  exact ⟨A, l, c, e, hs⟩

end
end Go.Proofs.YtajeghkjppkhcaaGreat

/-!
  Arguments of the type []Path, as a row reads them.
-/

namespace Go.Proofs.YtajeghkjppkhcaaGreat
open Go.RowKit Go.ChangeShapes Go.WideShapes

section
variable {H : Type} {enc : TypeId × Value → H} {w : World}

theorem open_paths {fuel : Nat} {cs : List Value} {d : DataW H} {ps : List MemPlace} (h : DataW.trod enc Tryz.prog w 0 (fun _ => true) true fuel 39 cs = some (d, ps)) (hw : Small 39 d) :
    ∃ (A : Option Addr) (l : List (List REl)) (c : Nat), cs = [.slice A l.length c] ∧ PathsAt (Old w) w l A c := by
  obtain ⟨LA, len, lc, n', L, rfl, rfl, l1, l2, l3, l4, l5, l6, l7⟩ := open_slice (size := 1) (bytes := 24) Tryz.underlying39 (by kernel_rfl) (by kernel_rfl) (by decide) h hw
  have hall : ∀ i, i < len → ∃ r : List REl, ∀ x, L[i]? = some x → ∃ A c, x = [.slice A r.length c] ∧ PathAt (Old w) w r A c := by
    intro i hi
    obtain ⟨x, hx⟩ : ∃ x, L[i]? = some x := ⟨_, List.getElem?_eq_getElem (by omega)⟩
    obtain ⟨d', p', h8, h9⟩ := l7 i x hx
    obtain ⟨A, l, c, e, hr⟩ := open_path h8 h9
    refine ⟨l, fun y hy => ?_⟩
    rw [hx] at hy
    exact Option.some.inj hy ▸ ⟨A, c, e, hr⟩
  obtain ⟨f, hf'⟩ := Deep.choose_lt hall
  subst l4
  have hll : ((List.range L.length).map f).length = L.length := by simp
  refine ⟨LA, (List.range L.length).map f, lc, by rw [hll], by rw [hll]; exact l3, by rw [hll]; exact l1, l2, L.flatten, by rw [hll]; exact l5, by rw [hll]; exact l5.1, ?_⟩
  intro i r hr
  rw [List.getElem?_map] at hr
  obtain ⟨j, hj, rfl⟩ := Option.map_eq_some_iff.1 hr
  obtain ⟨hj1, hj2⟩ := List.getElem?_eq_some_iff.1 hj
  simp at hj1 hj2
  subst hj2
  have hx : L[i]? = some L[i] := List.getElem?_eq_getElem hj1
  rw [flat_part (by decide) L l6 i _ hx]
  exact hf' i hj1 _ hx

set_option maxRecDepth 100000 in
theorem open_Paths {base : Nat} {v : Value} {d : DataW H} {ps : List MemPlace} (h : DataW.Trod enc Tryz.prog w 0 (fun _ => true) true 39 v d ps) (hw : Small 39 d) (hok : Value.okWide Tryz.prog w .any base 39 v) : ∃ A l c, v = .slice A l.length c ∧ PathsAt (Old w) w l A c := by
  obtain ⟨fuel, hf⟩ := h
  obtain ⟨A, l, c, e, hs⟩ := open_paths hf hw
  obtain ⟨a, n, m, rfl⟩ := okWide_slice Tryz.underlying39 hok
  simp only [Value.cells, List.cons.injEq, and_true] at e
  exact ⟨A, l, c, e, hs⟩

end
end Go.Proofs.YtajeghkjppkhcaaGreat
