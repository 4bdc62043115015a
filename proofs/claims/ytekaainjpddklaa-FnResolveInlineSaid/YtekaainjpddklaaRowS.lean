/-
  Arguments of the thin package's types Atom, Ref and Schema, as a row reads them. Printed by genopens.py.
-/
import Derived.Test.YtekaainjpddklaaRowE
import Derived.Test.YtekaainjpddklaaSchTo
set_option linter.unusedVariables false
set_option linter.unusedSimpArgs false
namespace Go.Proofs.Ytekaainjpddklaa
open Go.RowKit Go.ChangeShapes Go.WideShapes

section
variable {H : Type} {enc : TypeId × Value → H} {w : World}

/-- a struct of the thin package's types, opened with this fuel -/
def OpenK (enc : TypeId × Value → H) (w : World) (fuel : Nat) (t : TypeId) (k : K) : Prop := ∀ (cs : List Value) (d : DataW H) (ps : List MemPlace), DataW.trod enc Try.prog w 0 (fun _ => true) true fuel t cs = some (d, ps) → Small t d → ∃ s, SAt (Old w) w k s cs

set_option maxRecDepth 100000 in
theorem open_ref_of {m fuel : Nat} (ih : ∀ f, f < m → OpenK enc w f 38 .atom) (hfm : fuel ≤ m) : OpenK enc w fuel 51 .ref := by
  intro cs d ps h hw
  obtain ⟨xs, n, rfl, rfl, hl, hlen, hf⟩ := open_struct (l := [(4, 0, 1), (9, 1, 1), (38, 2, 3), (9, 5, 1)]) Try.underlying51 (by kernel_rfl) h
  have hws := hw.struct Try.underlying51
  rw [show Try.prog.cellsOf 51 = 6 from by kernel_rfl] at hl
  obtain ⟨u0, u1, u2, u3, u4, u5, rfl⟩ : ∃ u0 u1 u2 u3 u4 u5, cs = [u0, u1, u2, u3, u4, u5] := by
    match cs, hl with
    | [u0, u1, u2, u3, u4, u5], _ => exact ⟨u0, u1, u2, u3, u4, u5, rfl⟩
  obtain ⟨y0, y1, y2, y3, rfl⟩ : ∃ y0 y1 y2 y3, xs = [y0, y1, y2, y3] := by
    match xs, hlen with
    | [y0, y1, y2, y3], _ => exact ⟨y0, y1, y2, y3, rfl⟩
  have g0 := hf 0 _ _ _ rfl
  have g1 := hf 1 _ _ _ rfl
  have g2 := hf 2 _ _ _ rfl
  have g3 := hf 3 _ _ _ rfl
  simp only [List.drop_succ_cons, List.drop_zero, List.take_succ_cons, List.take_zero, List.getElem?_cons_succ, List.getElem?_cons_zero] at g0 g1 g2 g3
  have w0 := hws.part 0 (d := y0.1) rfl rfl
  have w1 := hws.part 1 (d := y1.1) rfl rfl
  have w2 := hws.part 2 (d := y2.1) rfl rfl
  have w3 := hws.part 3 (d := y3.1) rfl rfl
  obtain ⟨b0, e0, x0⟩ := DataW.trod_bool Try.underlying4 g0
  obtain ⟨s1, e1, x1, -⟩ := DataW.trod_string Try.underlying9 g1
  rw [x1] at w1
  have k1 := w1.str
  obtain ⟨s3, e3, x3, -⟩ := DataW.trod_string Try.underlying9 g3
  rw [x3] at w3
  have k3 := w3.str
  obtain ⟨a, ha⟩ := ih n (by omega) _ y2.1 y2.2 g2 w2
  simp only [List.cons.injEq, and_true] at e0
  subst e0
  simp only [List.cons.injEq, and_true] at e1
  subst e1
  simp only [List.cons.injEq, and_true] at e3
  subst e3
  exact ⟨_, .ref k1 k3 ha⟩

set_option maxRecDepth 100000 in
theorem open_listT_of {m fuel : Nat} (ih : ∀ f, f < m → OpenK enc w f 38 .atom) (hfm : fuel ≤ m) : OpenK enc w fuel 105 .list := by
  intro cs d ps h hw
  obtain ⟨xs, n, rfl, rfl, hl, hlen, hf⟩ := open_struct (l := [(51, 0, 6), (9, 6, 1), (23, 7, 1)]) Try.underlying105 (by kernel_rfl) h
  have hws := hw.struct Try.underlying105
  rw [show Try.prog.cellsOf 105 = 8 from by kernel_rfl] at hl
  obtain ⟨u0, u1, u2, u3, u4, u5, u6, u7, rfl⟩ : ∃ u0 u1 u2 u3 u4 u5 u6 u7, cs = [u0, u1, u2, u3, u4, u5, u6, u7] := by
    match cs, hl with
    | [u0, u1, u2, u3, u4, u5, u6, u7], _ => exact ⟨u0, u1, u2, u3, u4, u5, u6, u7, rfl⟩
  obtain ⟨y0, y1, y2, rfl⟩ : ∃ y0 y1 y2, xs = [y0, y1, y2] := by
    match xs, hlen with
    | [y0, y1, y2], _ => exact ⟨y0, y1, y2, rfl⟩
  have g0 := hf 0 _ _ _ rfl
  have g1 := hf 1 _ _ _ rfl
  have g2 := hf 2 _ _ _ rfl
  simp only [List.drop_succ_cons, List.drop_zero, List.take_succ_cons, List.take_zero, List.getElem?_cons_succ, List.getElem?_cons_zero] at g0 g1 g2
  have w0 := hws.part 0 (d := y0.1) rfl rfl
  have w1 := hws.part 1 (d := y1.1) rfl rfl
  have w2 := hws.part 2 (d := y2.1) rfl rfl
  obtain ⟨s1, e1, x1, -⟩ := DataW.trod_string Try.underlying9 g1
  rw [x1] at w1
  have k1 := w1.str
  obtain ⟨KA, keys, kc, e2, k21, k22, k23, k24, k25⟩ := open_keys (d := y2.1) (ps := y2.2) g2 w2
  obtain ⟨a, ha⟩ := open_ref_of ih (show n ≤ m by omega) _ y0.1 y0.2 g0 w0
  simp only [List.cons.injEq, and_true] at e1
  subst e1
  simp only [List.cons.injEq, and_true] at e2
  subst e2
  exact ⟨_, .list ha k1 k23 k24 k21 k22 k25⟩

set_option maxRecDepth 100000 in
theorem open_fieldT_of {m fuel : Nat} (ih : ∀ f, f < m → OpenK enc w f 38 .atom) (hfm : fuel ≤ m) : OpenK enc w fuel 111 .field := by
  intro cs d ps h hw
  obtain ⟨xs, n, rfl, rfl, hl, hlen, hf⟩ := open_struct (l := [(9, 0, 1), (51, 1, 6), (24, 7, 1)]) Try.underlying111 (by kernel_rfl) h
  have hws := hw.struct Try.underlying111
  rw [show Try.prog.cellsOf 111 = 8 from by kernel_rfl] at hl
  obtain ⟨u0, u1, u2, u3, u4, u5, u6, u7, rfl⟩ : ∃ u0 u1 u2 u3 u4 u5 u6 u7, cs = [u0, u1, u2, u3, u4, u5, u6, u7] := by
    match cs, hl with
    | [u0, u1, u2, u3, u4, u5, u6, u7], _ => exact ⟨u0, u1, u2, u3, u4, u5, u6, u7, rfl⟩
  obtain ⟨y0, y1, y2, rfl⟩ : ∃ y0 y1 y2, xs = [y0, y1, y2] := by
    match xs, hlen with
    | [y0, y1, y2], _ => exact ⟨y0, y1, y2, rfl⟩
  have g0 := hf 0 _ _ _ rfl
  have g1 := hf 1 _ _ _ rfl
  have g2 := hf 2 _ _ _ rfl
  simp only [List.drop_succ_cons, List.drop_zero, List.take_succ_cons, List.take_zero, List.getElem?_cons_succ, List.getElem?_cons_zero] at g0 g1 g2
  have w0 := hws.part 0 (d := y0.1) rfl rfl
  have w1 := hws.part 1 (d := y1.1) rfl rfl
  have w2 := hws.part 2 (d := y2.1) rfl rfl
  obtain ⟨s0, e0, x0, -⟩ := DataW.trod_string Try.underlying9 g0
  rw [x0] at w0
  have k0 := w0.str
  obtain ⟨LA, l, lc, xs, e2, l1, l2, l3, l4, l5⟩ := open_values (d := y2.1) (ps := y2.2) g2 w2
  obtain ⟨a, ha⟩ := open_ref_of ih (show n ≤ m by omega) _ y1.1 y1.2 g1 w1
  simp only [List.cons.injEq, and_true] at e0
  subst e0
  simp only [List.cons.injEq, and_true] at e2
  subst e2
  refine ⟨_, .field (d := l.head?) k0 ha l3 l1 l2 ?_ l4 ?_⟩
  · cases l <;> simp
  · intro r hr
    have := l5 0 r (by rw [← List.head?_eq_getElem?]; exact hr)
    simpa using this

set_option maxRecDepth 100000 in
theorem open_mapT_of {m fuel : Nat} (ih : ∀ f, f < m → OpenK enc w f 38 .atom) (hfm : fuel ≤ m) : OpenK enc w fuel 109 .map := by
  intro cs d ps h hw
  obtain ⟨xs, n, rfl, rfl, hl, hlen, hf⟩ := open_struct (l := [(107, 0, 1), (51, 1, 6), (9, 7, 1)]) Try.underlying109 (by kernel_rfl) h
  have hws := hw.struct Try.underlying109
  rw [show Try.prog.cellsOf 109 = 8 from by kernel_rfl] at hl
  obtain ⟨u0, u1, u2, u3, u4, u5, u6, u7, rfl⟩ : ∃ u0 u1 u2 u3 u4 u5 u6 u7, cs = [u0, u1, u2, u3, u4, u5, u6, u7] := by
    match cs, hl with
    | [u0, u1, u2, u3, u4, u5, u6, u7], _ => exact ⟨u0, u1, u2, u3, u4, u5, u6, u7, rfl⟩
  obtain ⟨y0, y1, y2, rfl⟩ : ∃ y0 y1 y2, xs = [y0, y1, y2] := by
    match xs, hlen with
    | [y0, y1, y2], _ => exact ⟨y0, y1, y2, rfl⟩
  have g0 := hf 0 _ _ _ rfl
  have g1 := hf 1 _ _ _ rfl
  have g2 := hf 2 _ _ _ rfl
  simp only [List.drop_succ_cons, List.drop_zero, List.take_succ_cons, List.take_zero, List.getElem?_cons_succ, List.getElem?_cons_zero] at g0 g1 g2
  have w0 := hws.part 0 (d := y0.1) rfl rfl
  have w1 := hws.part 1 (d := y1.1) rfl rfl
  have w2 := hws.part 2 (d := y2.1) rfl rfl
  obtain ⟨s2, e2, x2, -⟩ := DataW.trod_string Try.underlying9 g2
  rw [x2] at w2
  have k2 := w2.str
  obtain ⟨a, ha⟩ := open_ref_of ih (show n ≤ m by omega) _ y1.1 y1.2 g1 w1
  obtain ⟨FA, len, fc, n', L, rfl, e0, l1, l2, l3, l4, l5, l6, l7⟩ := open_slice (size := 8) (bytes := 144) Try.underlying107 (by kernel_rfl) (by kernel_rfl) (by decide) (d := y0.1) (ps := y0.2) g0 w0
  have hall : ∀ i, i < len → ∃ s : Ytekaainjpddklaa.S, ∀ x, L[i]? = some x → SAt (Old w) w .field s x := by
    intro i hi
    obtain ⟨x, hx⟩ : ∃ x, L[i]? = some x := ⟨_, List.getElem?_eq_getElem (by omega)⟩
    obtain ⟨d', p', h8, h9⟩ := l7 i x hx
    obtain ⟨r, hr⟩ := open_fieldT_of ih (show n' ≤ m by omega) x d' p' h8 h9
    refine ⟨r, fun y hy => ?_⟩
    rw [hx] at hy
    exact Option.some.inj hy ▸ hr
  have : Inhabited Ytekaainjpddklaa.S := ⟨.atom ⟨#[]⟩ none none⟩
  obtain ⟨f, hf'⟩ := Deep.choose_lt hall
  subst l4
  simp only [List.cons.injEq, and_true] at e0
  subst e0
  simp only [List.cons.injEq, and_true] at e2
  subst e2
  have hll : ((List.range L.length).map f).length = L.length := by simp
  have hM := SAt.map (fs := (List.range L.length).map f) (c := fc) (xs := L.flatten) (by rw [hll]; exact l3) (by rw [hll]; exact l1) l2 (by rw [hll]; exact l5) ?_ ha k2
  · rw [hll] at hM
    exact ⟨_, hM⟩
  · intro i r hr
    rw [List.getElem?_map] at hr
    obtain ⟨j, hj, rfl⟩ := Option.map_eq_some_iff.1 hr
    obtain ⟨hj1, hj2⟩ := List.getElem?_eq_some_iff.1 hj
    simp at hj1 hj2
    subst hj2
    have hx : L[i]? = some L[i] := List.getElem?_eq_getElem hj1
    rw [flat_part (by decide) L l6 i _ hx]
    exact hf' i hj1 _ hx

set_option maxRecDepth 100000 in
theorem open_atom : ∀ (m fuel : Nat), fuel < m → OpenK enc w fuel 38 .atom
  | 0, _, hm => absurd hm (by omega)
  | m + 1, fuel, hm => by
    have ih : ∀ f, f < m → OpenK enc w f 38 .atom := fun f hf => open_atom m f hf
    intro cs d ps h hw
    obtain ⟨xs, n, rfl, rfl, hl, hlen, hf⟩ := open_struct (l := [(9, 0, 1), (35, 1, 1), (36, 2, 1)]) Try.underlying38 (by kernel_rfl) h
    have hws := hw.struct Try.underlying38
    rw [show Try.prog.cellsOf 38 = 3 from by kernel_rfl] at hl
    obtain ⟨u0, u1, u2, rfl⟩ : ∃ u0 u1 u2, cs = [u0, u1, u2] := by
      match cs, hl with
      | [u0, u1, u2], _ => exact ⟨u0, u1, u2, rfl⟩
    obtain ⟨y0, y1, y2, rfl⟩ : ∃ y0 y1 y2, xs = [y0, y1, y2] := by
      match xs, hlen with
      | [y0, y1, y2], _ => exact ⟨y0, y1, y2, rfl⟩
    have g0 := hf 0 _ _ _ rfl
    have g1 := hf 1 _ _ _ rfl
    have g2 := hf 2 _ _ _ rfl
    simp only [List.drop_succ_cons, List.drop_zero, List.take_succ_cons, List.take_zero, List.getElem?_cons_succ, List.getElem?_cons_zero] at g0 g1 g2
    have w0 := hws.part 0 (d := y0.1) rfl rfl
    have w1 := hws.part 1 (d := y1.1) rfl rfl
    have w2 := hws.part 2 (d := y2.1) rfl rfl
    obtain ⟨s0, e0, x0, -⟩ := DataW.trod_string Try.underlying9 g0
    rw [x0] at w0
    have k0 := w0.str
    obtain ⟨A1, n1, c1, q1, L1, r1, e1, l11, l12, l13, l14, l15, l16, l17⟩ := open_slice (size := 8) (bytes := 144) Try.underlying35 (by kernel_rfl) (by kernel_rfl) (by decide) (d := y1.1) (ps := y1.2) g1 w1
    have hx1 : ∃ o : Option Ytekaainjpddklaa.S, (n1 = 0 ↔ o = none) ∧ ∀ x, o = some x → SAt (Old w) w .list x (L1.flatten.take 8) := by
      cases hn : L1 with
      | nil => exact ⟨none, by rw [hn] at l14; simpa using l14.symm, by simp⟩
      | cons x L =>
        rw [hn] at l14 l16 l17
        obtain ⟨d', p', h8, h9⟩ := l17 0 x rfl
        obtain ⟨r, hr⟩ := open_listT_of ih (show q1 ≤ m by omega) x d' p' h8 h9
        refine ⟨some r, by simp at l14; simp; omega, fun y hy => ?_⟩
        cases hy
        rw [List.flatten_cons, List.take_append_of_le_length (by rw [l16 x (by simp)]; omega), List.take_of_length_le (by rw [l16 x (by simp)]; omega)]
        exact hr
    obtain ⟨o1, ho1, hs1⟩ := hx1
    obtain ⟨A2, n2, c2, q2, L2, r2, e2, l21, l22, l23, l24, l25, l26, l27⟩ := open_slice (size := 8) (bytes := 144) Try.underlying36 (by kernel_rfl) (by kernel_rfl) (by decide) (d := y2.1) (ps := y2.2) g2 w2
    have hx2 : ∃ o : Option Ytekaainjpddklaa.S, (n2 = 0 ↔ o = none) ∧ ∀ x, o = some x → SAt (Old w) w .map x (L2.flatten.take 8) := by
      cases hn : L2 with
      | nil => exact ⟨none, by rw [hn] at l24; simpa using l24.symm, by simp⟩
      | cons x L =>
        rw [hn] at l24 l26 l27
        obtain ⟨d', p', h8, h9⟩ := l27 0 x rfl
        obtain ⟨r, hr⟩ := open_mapT_of ih (show q2 ≤ m by omega) x d' p' h8 h9
        refine ⟨some r, by simp at l24; simp; omega, fun y hy => ?_⟩
        cases hy
        rw [List.flatten_cons, List.take_append_of_le_length (by rw [l26 x (by simp)]; omega), List.take_of_length_le (by rw [l26 x (by simp)]; omega)]
        exact hr
    obtain ⟨o2, ho2, hs2⟩ := hx2
    simp only [List.cons.injEq, and_true] at e0
    subst e0
    simp only [List.cons.injEq, and_true] at e1
    subst e1
    simp only [List.cons.injEq, and_true] at e2
    subst e2
    exact ⟨_, .atom k0 l13 l11 l12 l23 l21 l22 ho1 ho2 l15 l25 hs1 hs2⟩

set_option maxRecDepth 100000 in
theorem open_def {fuel : Nat} : OpenK enc w fuel 42 .def_ := by
  intro cs d ps h hw
  obtain ⟨xs, n, rfl, rfl, hl, hlen, hf⟩ := open_struct (l := [(9, 0, 1), (38, 1, 3)]) Try.underlying42 (by kernel_rfl) h
  have hws := hw.struct Try.underlying42
  rw [show Try.prog.cellsOf 42 = 4 from by kernel_rfl] at hl
  obtain ⟨u0, u1, u2, u3, rfl⟩ : ∃ u0 u1 u2 u3, cs = [u0, u1, u2, u3] := by
    match cs, hl with
    | [u0, u1, u2, u3], _ => exact ⟨u0, u1, u2, u3, rfl⟩
  obtain ⟨y0, y1, rfl⟩ : ∃ y0 y1, xs = [y0, y1] := by
    match xs, hlen with
    | [y0, y1], _ => exact ⟨y0, y1, rfl⟩
  have g0 := hf 0 _ _ _ rfl
  have g1 := hf 1 _ _ _ rfl
  simp only [List.drop_succ_cons, List.drop_zero, List.take_succ_cons, List.take_zero, List.getElem?_cons_succ, List.getElem?_cons_zero] at g0 g1
  have w0 := hws.part 0 (d := y0.1) rfl rfl
  have w1 := hws.part 1 (d := y1.1) rfl rfl
  obtain ⟨s0, e0, x0, -⟩ := DataW.trod_string Try.underlying9 g0
  rw [x0] at w0
  have k0 := w0.str
  obtain ⟨a, ha⟩ := open_atom (n + 1) n (by omega) _ y1.1 y1.2 g1 w1
  simp only [List.cons.injEq, and_true] at e0
  subst e0
  exact ⟨_, .def_ k0 ha⟩

set_option maxRecDepth 100000 in
theorem open_schema {fuel : Nat} {cs : List Value} {d : DataW H} {ps : List MemPlace} (h : DataW.trod enc Try.prog w 0 (fun _ => true) true fuel 33 cs = some (d, ps)) (hw : Small 33 d) : ∃ ts A c, cs = [.slice A ts.length c] ∧ SchS (Old w) w ts A c := by
  obtain ⟨xs, n, rfl, rfl, hl, hlen, hf⟩ := open_struct (l := [(31, 0, 1)]) Try.underlying33 (by kernel_rfl) h
  have hws := hw.struct Try.underlying33
  rw [show Try.prog.cellsOf 33 = 1 from by kernel_rfl] at hl
  obtain ⟨u0, rfl⟩ : ∃ u0, cs = [u0] := by
    match cs, hl with
    | [u0], _ => exact ⟨u0, rfl⟩
  obtain ⟨y0, rfl⟩ : ∃ y0, xs = [y0] := by
    match xs, hlen with
    | [y0], _ => exact ⟨y0, rfl⟩
  have g0 := hf 0 _ _ _ rfl
  simp only [List.drop_succ_cons, List.drop_zero, List.take_succ_cons, List.take_zero, List.getElem?_cons_succ, List.getElem?_cons_zero] at g0
  have w0 := hws.part 0 (d := y0.1) rfl rfl
  obtain ⟨A, len, c, n', L, rfl, e0, l1, l2, l3, l4, l5, l6, l7⟩ := open_slice (size := 4) (bytes := 80) Try.underlying31 (by kernel_rfl) (by kernel_rfl) (by decide) (d := y0.1) (ps := y0.2) g0 w0
  have hall : ∀ i, i < len → ∃ s : Ytekaainjpddklaa.S, ∀ x, L[i]? = some x → SAt (Old w) w .def_ s x := by
    intro i hi
    obtain ⟨x, hx⟩ : ∃ x, L[i]? = some x := ⟨_, List.getElem?_eq_getElem (by omega)⟩
    obtain ⟨d', p', h8, h9⟩ := l7 i x hx
    obtain ⟨r, hr⟩ := open_def x d' p' h8 h9
    refine ⟨r, fun y hy => ?_⟩
    rw [hx] at hy
    exact Option.some.inj hy ▸ hr
  have : Inhabited Ytekaainjpddklaa.S := ⟨.atom ⟨#[]⟩ none none⟩
  obtain ⟨f, hf'⟩ := Deep.choose_lt hall
  subst l4
  simp only [List.cons.injEq, and_true] at e0
  subst e0
  have hll : ((List.range L.length).map f).length = L.length := by simp
  refine ⟨(List.range L.length).map f, A, c, by rw [hll], by rw [hll]; exact l3, by rw [hll]; exact l1, l2, L.flatten, by rw [hll]; exact l5, ?_, ?_⟩
  · rw [hll]; exact l5.1
  · intro i r hr
    rw [List.getElem?_map] at hr
    obtain ⟨j, hj, rfl⟩ := Option.map_eq_some_iff.1 hr
    obtain ⟨hj1, hj2⟩ := List.getElem?_eq_some_iff.1 hj
    simp at hj1 hj2
    subst hj2
    have hx : L[i]? = some L[i] := List.getElem?_eq_getElem hj1
    rw [flat_part (by decide) L l6 i _ hx]
    exact hf' i hj1 _ hx

theorem agg_of_cells {v : Value} {l : List Value} (h : v.cells.toList = l) (hn : l.length ≠ 1) : v = .agg l.toArray := by
  cases v
  case agg vs => rw [← h, show (Value.agg vs).cells = vs from rfl, Array.toArray_toList]
  all_goals (subst h; simp [Value.cells] at hn)

set_option maxRecDepth 100000 in
theorem open_Schema {base : Nat} {v : Value} {d : DataW H} {ps : List MemPlace} (h : DataW.Trod enc Try.prog w 0 (fun _ => true) true 33 v d ps) (hw : Small 33 d) (hok : Value.okWide Try.prog w .any base 33 v) : ∃ ts A c, v = .agg #[.slice A ts.length c] ∧ SchS (Old w) w ts A c := by
  obtain ⟨fuel, hf⟩ := h
  obtain ⟨ts, A, c, e, hs⟩ := open_schema hf hw
  refine ⟨ts, A, c, ?_, hs⟩
  obtain ⟨vs, rfl, -⟩ := okWide_struct Try.underlying33 hok
  rw [show (Value.agg vs).cells = vs from rfl] at e
  rw [show vs = #[.slice A ts.length c] from by rw [← Array.toArray_toList (xs := vs), e]]
theorem open_Atom {v : Value} {d : DataW H} {ps : List MemPlace} (h : DataW.Trod enc Try.prog w 0 (fun _ => true) true 38 v d ps) (hw : Small 38 d) : ∃ s cs, v = .agg cs.toArray ∧ SAt (Old w) w .atom s cs := by
  obtain ⟨fuel, hf⟩ := h
  obtain ⟨s, hs⟩ := open_atom (fuel + 1) fuel (by omega) _ _ _ hf hw
  refine ⟨s, _, agg_of_cells rfl ?_, hs⟩
  obtain ⟨_, _, _, _, _, _, _, e⟩ := hs.atom_form
  rw [e]
  simp
theorem open_Ref {v : Value} {d : DataW H} {ps : List MemPlace} (h : DataW.Trod enc Try.prog w 0 (fun _ => true) true 51 v d ps) (hw : Small 51 d) : ∃ s cs, v = .agg cs.toArray ∧ SAt (Old w) w .ref s cs := by
  obtain ⟨fuel, hf⟩ := h
  obtain ⟨s, hs⟩ := open_ref_of (m := fuel) (fun f hf => open_atom (f + 1) f (by omega)) (Nat.le_refl _) _ _ _ hf hw
  refine ⟨s, _, agg_of_cells rfl ?_, hs⟩
  obtain ⟨_, _, _, _, _, _, _, _, _, _, e⟩ := hs.ref_form
  rw [e]
  simp

end
end Go.Proofs.Ytekaainjpddklaa
