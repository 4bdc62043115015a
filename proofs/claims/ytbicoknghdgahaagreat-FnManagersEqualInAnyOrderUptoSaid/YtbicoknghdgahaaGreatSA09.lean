/- Parts: RowMg. -/
import Derived.Test.YtbicoknghdgahaaGreatSA08
set_option linter.unusedVariables false
set_option linter.unusedSimpArgs false
namespace Go.Proofs.YtbicoknghdgahaaGreat
open Go.RowKit Go.ChangeShapes Go.WideShapes

section
variable {H : Type} {enc : TypeId × Value → H} {w : World}

def Mgr.small (B : Nat) (m : Mgr) : Prop := m.name.size ≤ B ∧ m.ver.size ≤ B ∧ m.set.length ≤ B

set_option maxRecDepth 100000 in
theorem open_manager {fuel : Nat} {cs : List Value} {d : DataW H} {ps : List MemPlace} (h : DataW.trod enc Tryz.prog w 0 (fun _ => true) true fuel 51 cs = some (d, ps)) (hw : Small 51 d) :
  ∃ m : Mgr, MgAt (Old w) w m cs ∧ m.small (Rows.uptoBulk d) := by
 obtain ⟨xs, n, rfl, rfl, hl, hlen, hf⟩ := open_struct (l := [(9, 0, 1), (9, 1, 1), (4, 2, 1), (36, 3, 1)]) Tryz.underlying51 (by kernel_rfl) h
 have hws := hw.struct Tryz.underlying51
 rw [show Tryz.prog.cellsOf 51 = 4 from by kernel_rfl] at hl
 obtain ⟨u0, u1, u2, u3, rfl⟩ : ∃ u0 u1 u2 u3, cs = [u0, u1, u2, u3] := by
  match cs, hl with
  | [u0, u1, u2, u3], _ => exact ⟨u0, u1, u2, u3, rfl⟩
 obtain ⟨y0, y1, y2, y3, rfl⟩ : ∃ y0 y1 y2 y3, xs = [y0, y1, y2, y3] := by
  match xs, hlen with
  | [y0, y1, y2, y3], _ => exact ⟨y0, y1, y2, y3, rfl⟩
 have g0 := hf 0 _ _ _ rfl
 have g1 := hf 1 _ _ _ rfl
 have g2 := hf 2 _ _ _ rfl
 have g3 := hf 3 _ _ _ rfl
 simp only [List.drop_succ_cons, List.drop_zero, List.take_succ_cons, List.take_zero, List.getElem?_cons_succ, List.getElem?_cons_zero] at g0 g1 g2 g3
 have w3 := hws.part 3 (d := y3.1) rfl rfl
 obtain ⟨s0, e0, x0, -⟩ := DataW.trod_string Tryz.underlying9 g0
 obtain ⟨s1, e1, x1, -⟩ := DataW.trod_string Tryz.underlying9 g1
 obtain ⟨b2, e2, x2⟩ := DataW.trod_bool Tryz.underlying4 g2
 obtain ⟨A, l, c, e3, hp⟩ := open_paths (d := y3.1) (ps := y3.2) g3 w3
 obtain ⟨A', len, c', n', L, -, e4, -, -, -, -, -, -, hbk, -⟩ := open_slice_b (size := 1) (bytes := 24) (d := y3.1) (ps := y3.2) Tryz.underlying36 (by kernel_rfl) (by kernel_rfl) (by decide) g3 w3
 simp only [List.cons.injEq, and_true] at e0 e1 e2 e3 e4
 subst e0; subst e1; subst e2; subst e3
 have hlen : l.length = len := by injection e4
 refine ⟨⟨s0, s1, b2, l⟩, ⟨A, c, rfl, hp⟩, ?_, ?_, ?_⟩
 ·have hy : y0.1 = .lit (.string s0.data.toList) := by rw [x0]
  have := bulk_part (d := y0.1) (l := [y0, y1, y2, y3].map (·.1)) (by simp)
  have h2 := bulk_str (H := H) (s := s0)
  rw [hy] at this
  show s0.size ≤ Rows.uptoBulk (.agg _)
  simp only [Rows.uptoBulk] at h2 ⊢
  simp only [Rows.uptoBulk] at this
  omega
 ·have hy : y1.1 = .lit (.string s1.data.toList) := by rw [x1]
  have := bulk_part (d := y1.1) (l := [y0, y1, y2, y3].map (·.1)) (by simp)
  have h2 := bulk_str (H := H) (s := s1)
  rw [hy] at this
  show s1.size ≤ Rows.uptoBulk (.agg _)
  simp only [Rows.uptoBulk] at h2 ⊢
  simp only [Rows.uptoBulk] at this
  omega
 ·have := bulk_part (d := y3.1) (l := [y0, y1, y2, y3].map (·.1)) (by simp)
  show l.length ≤ Rows.uptoBulk (.agg _)
  simp only [Rows.uptoBulk]
  omega

set_option maxRecDepth 100000 in
theorem open_Managers {base : Nat} {v : Value} {d : DataW H} {ps : List MemPlace} (h : DataW.Trod enc Tryz.prog w 0 (fun _ => true) true 47 v d ps) (hw : Small 47 d) (hok : Value.okWide Tryz.prog w .any base 47 v) :
  ∃ A l c, v = .slice A l.length c ∧ MgsAt (Old w) w l A c ∧ l.length ≤ Rows.uptoBulk d ∧ ∀ m ∈ l, m.small (Rows.uptoBulk d) := by
 obtain ⟨fuel, h⟩ := h
 obtain ⟨a, n0, m0, rfl⟩ := okWide_slice Tryz.underlying47 hok
 obtain ⟨LA, len, lc, n', L, rfl, e, l1, l2, l3, l4, l5, l6, l7, l8⟩ := open_slice_b (size := 4) (bytes := 64) Tryz.underlying47 (by kernel_rfl) (by kernel_rfl) (by decide) h hw
 simp only [Value.cells, List.cons.injEq, and_true] at e
 have hall : ∀ i, i < len → ∃ r : Mgr, ∀ x, L[i]? = some x → MgAt (Old w) w r x ∧ r.small (Rows.uptoBulk d) := by
  intro i hi
  obtain ⟨x, hx⟩ : ∃ x, L[i]? = some x := ⟨_, List.getElem?_eq_getElem (by omega)⟩
  obtain ⟨d', p', h8, h9, h10⟩ := l8 i x hx
  obtain ⟨m, hm, hs0, hs1, hs2⟩ := open_manager h8 h9
  refine ⟨m, fun y hy => ?_⟩
  rw [hx] at hy
  exact Option.some.inj hy ▸ ⟨hm, by omega, by omega, by omega⟩
 have : Inhabited Mgr := ⟨⟨⟨#[]⟩, ⟨#[]⟩, false, []⟩⟩
 obtain ⟨f, hf'⟩ := Deep.choose_lt hall
 subst l4
 have hll : ((List.range L.length).map f).length = L.length := by simp
 refine ⟨LA, (List.range L.length).map f, lc, by rw [hll]; exact e, ⟨by rw [hll]; exact l3, by rw [hll]; exact l1, l2, L.flatten, by rw [hll]; exact l5, by rw [hll]; exact l5.1, ?_⟩, by rw [hll]; exact l7, ?_⟩
 ·intro i r hr
  rw [List.getElem?_map] at hr
  obtain ⟨j, hj, rfl⟩ := Option.map_eq_some_iff.1 hr
  obtain ⟨hj1, hj2⟩ := List.getElem?_eq_some_iff.1 hj
  simp at hj1 hj2
  subst hj2
  have hx : L[i]? = some L[i] := List.getElem?_eq_getElem hj1
  rw [flat_part (by decide) L l6 i _ hx]
  exact (hf' i hj1 _ hx).1
 ·intro m hm
  obtain ⟨i, hi, rfl⟩ := List.mem_map.1 hm
  have hi := List.mem_range.1 hi
  exact (hf' i hi _ (List.getElem?_eq_getElem hi)).2
end
end Go.Proofs.YtbicoknghdgahaaGreat
