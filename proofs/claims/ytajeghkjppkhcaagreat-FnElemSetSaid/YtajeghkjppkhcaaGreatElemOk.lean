/-
  The reference's OrderlyElem; laws.zzFits13.
-/
import Derived.Test.YtajeghkjppkhcaaGreatElemOrd
import Derived.Test.YtajeghkjppkhcaaGreatSpec
import Derived.Test.YtajeghkjppkhcaaGreatLists5
set_option linter.unusedVariables false
set_option linter.unusedSimpArgs false
namespace Go.Proofs.YtajeghkjppkhcaaGreat
open Go.RowKit
attribute [local go_sem] run_store_float

theorem sorted_of_sortK {α : Type} {l : List (ByteArray × α)} (h : SortK (l.map Prod.fst)) : Sorted l := List.pairwise_map.1 h

theorem tree_toRV_all {l : List T} (h : ∀ t ∈ l, t.WS) : (l.map T.toRV).map RV.tree = l := by
  rw [List.map_map]
  conv => rhs; rw [← List.map_id l]
  exact List.map_congr_left fun t ht => toRV_tree (h t ht)
theorem zip_fst_snd {α β : Type} (l : List (α × β)) : (l.map Prod.fst).zip (l.map Prod.snd) = l := by
  induction l with
  | nil => rfl
  | cons p l ih => rw [List.map_cons, List.map_cons, List.zip_cons_cons, ih]
/-- what a step's parts must be for it to be orderly -/
theorem elem_ok (r : REl) (hv : r.elem.toREl.v.tree.Ok) (hl : ∀ (i : Nat) x, i < r.elem.toREl.l.length → r.elem.toREl.l[i]? = some x → x.tree.Ok) (hk : SortK r.elem.toREl.elem.toREl.keys) : r.elem.Ok := by
  by_cases h1 : r.kind = 1
  · have he : r.elem = .key (r.keys.zip (r.l.map RV.tree)) := by unfold REl.elem; rw [if_pos h1]
    have hws : ∀ k t, (k, t) ∈ r.keys.zip (r.l.map RV.tree) → t.WS := by
      intro k t h
      have h2 := (List.of_mem_zip h).2
      obtain ⟨x, -, rfl⟩ := List.mem_map.1 h2
      exact tree_ws x
    rw [he] at hl hk ⊢
    generalize r.keys.zip (r.l.map RV.tree) = l at *
    have hsnd : (l.map fun p => p.2.toRV).map RV.tree = l.map Prod.snd := by
      have := tree_toRV_all (l := l.map Prod.snd) fun t ht => by
        obtain ⟨p, hp, rfl⟩ := List.mem_map.1 ht
        exact hws p.1 p.2 hp
      simpa using this
    have hel : (E.key l).toREl.elem = .key l := by
      have : (E.key l).toREl.elem = .key ((l.map Prod.fst).zip ((l.map fun p => p.2.toRV).map RV.tree)) := by
        unfold REl.elem
        exact if_pos rfl
      rw [this, hsnd, zip_fst_snd]
    rw [hel] at hk
    have hk : SortK (l.map Prod.fst) := hk
    refine .key (sorted_of_sortK hk) (.map fun k t h => ?_)
    obtain ⟨i, hi, e⟩ := List.getElem_of_mem h
    have := hl i ((l.map fun p => p.2.toRV)[i]'(by simpa using hi)) (by simpa [E.toREl] using hi) (by simp [E.toREl, hi])
    rw [List.getElem_map, e, toRV_tree (hws k t h)] at this
    exact this
  · by_cases h2 : r.kind = 2
    · have he : r.elem = .val r.v.tree := by unfold REl.elem; rw [if_neg h1, if_pos h2]
      rw [he] at hv ⊢
      simp only [E.toREl] at hv
      rw [toRV_tree (tree_ws r.v)] at hv
      exact .val hv
    · by_cases h3 : r.kind = 3
      · have he : r.elem = .idx r.n := by unfold REl.elem; rw [if_neg h1, if_neg h2, if_pos h3]
        rw [he]
        exact .idx _
      · have he : r.elem = .field r.s := by unfold REl.elem; rw [if_neg h1, if_neg h2, if_neg h3]
        rw [he]
        exact .field _

theorem ElemAt.listing {F : Nat → Prop} {w : World} {r : REl} {a b c d e f g h i : Value} {KA LA : Option Addr} {kn kc ln lc : Nat} (hr : ElemAt F w r [a, b, .slice KA kn kc, .slice LA ln lc, c, d, e, f, g, h, i]) :
    RVAt F w (LRV r.l) [.int .i64 5, .int .i64 0, .float .f64 0, .string ⟨#[]⟩, .slice none 0 0, .slice LA r.l.length lc] := by
  cases hr with
  | mk h1 h2 h3 h4 h5 => exact h3.listOf
theorem ElemAt.value {F : Nat → Prop} {w : World} {r : REl} {a b k l c d e f g h i : Value} (hr : ElemAt F w r [a, b, k, l, c, d, e, f, g, h, i]) : RVAt F w r.v [c, d, e, f, g, h] := by
  cases hr with
  | mk h1 h2 h3 h4 h5 => exact h4

set_option maxRecDepth 100000 in
set_option maxHeartbeats 4000000 in
theorem orderlyElem_calls (r : REl) (w : World) (cs : List Value) (h : ElemAt (Old w) w r cs) : Calls Tryz.prog 30 #[.agg cs.toArray] w (OrdPost r.elem.Ok w) := by
  have H := hide fun (W : World) (hb : Below w.heap.size w W) => cleanElem_calls r W _ (h.at_ hb)
  have Hok := hide (elem_ok r)
  generalize r.elem = E0 at *
  obtain ⟨r', hr'⟩ : ∃ r', E0.toREl = r' := ⟨_, rfl⟩
  rw [hr'] at H Hok
  clear hr'
  generalize E0.Ok = P at *
  obtain ⟨a0, a1, a2, a3, a4, a5, a6, a7, a8, a9, aa, ab, ac, ad, ae, af, ag, ah, ai, rfl⟩ := h.form
  clear h
  go_enter Tryz.func30, Tryz.ntmps30
  go_wp2_with fail
  have hb0 : Below w.heap.size w (w.alloc (.cells #[.int .i64 a0, .string a1, .slice a2 a3 a4, .slice a5 a6 a7, .int .i64 a8, .int .i64 a9, .float .f64 aa, .string ab, .slice ac ad ae, .slice af ag ah, .int .i64 ai] 33)) := (Below.refl _ _).alloc (Nat.le_refl _) _
  have hB0 := Bk.new w 33 #[.int .i64 a0, .string a1, .slice a2 a3 a4, .slice a5 a6 a7, .int .i64 a8, .int .i64 a9, .float .f64 aa, .string ab, .slice ac ad ae, .slice af ag ah, .int .i64 ai]
  generalize World.alloc _ _ = W at hb0 hB0 ⊢
  refine (H.out _ hb0).mono ?_
  rintro e w1 ⟨es, rfl, hes, hb1⟩
  obtain ⟨e0, e1, e2, e3, e4, e5, e6, e7, e8, e9, ea, eb, ec, ed, ee, ef, eg, eh, ei, rfl⟩ := hes.form
  have hB1 := hB0.below hb1 hB0.lt
  have hbw := hb0.trans (hb1.mono hb0.size)
  have hgl := hB0.lt
  have hes := hes.mono (G := fun b => w.heap.size + 1 ≤ b ∧ b < w1.heap.size) fun b hb => ⟨by have := hb.1; omega, hb.2⟩
  obtain ⟨rfl, rfl, -, -, -⟩ := hes.rows
  have fz : ∀ i, w1.frozen? ⟨w.heap.size, i, none⟩ = false := fun i => hB1.free i
  obtain ⟨p0, p1, p2, p3, p4, p5, p6, p7, p8, p9, p10⟩ := hB1.cells11
  have hset := set11_same (h := hB1) (c0 := .int .i64 e0) (c1 := .string e1) (c2 := .slice e2 r'.keys.length e4) (c3 := .slice e5 r'.l.length e7) (c4 := .int .i64 e8) (c5 := .int .i64 e9) (c6 := .float .f64 ea) (c7 := .string eb) (c8 := .slice ec ed ee) (c9 := .slice ef eg eh) (c10 := .int .i64 ei)
  have hsb := set11_below (.int .i64 e0) (.string e1) (.slice e2 r'.keys.length e4) (.slice e5 r'.l.length e7) (.int .i64 e8) (.int .i64 e9) (.float .f64 ea) (.string eb) (.slice ec ed ee) (.slice ef eg eh) (.int .i64 ei) hbw (Nat.le_refl w.heap.size)
  have hsh := fun b (hb : b ≠ w.heap.size) => set11_heap w1 w.heap.size (.int .i64 e0) (.string e1) (.slice e2 r'.keys.length e4) (.slice e5 r'.l.length e7) (.int .i64 e8) (.int .i64 e9) (.float .f64 ea) (.string eb) (.slice ec ed ee) (.slice ef eg eh) (.int .i64 ei) b hb
  have hsz := set11_size w1 w.heap.size (.int .i64 e0) (.string e1) (.slice e2 r'.keys.length e4) (.slice e5 r'.l.length e7) (.int .i64 e8) (.int .i64 e9) (.float .f64 ea) (.string eb) (.slice ec ed ee) (.slice ef eg eh) (.int .i64 ei)
  have hes2 := (hes.keeps (w' := set11 w1 w.heap.size (.int .i64 e0) (.string e1) (.slice e2 r'.keys.length e4) (.slice e5 r'.l.length e7) (.int .i64 e8) (.int .i64 e9) (.float .f64 ea) (.string eb) (.slice ec ed ee) (.slice ef eg eh) (.int .i64 ei)) fun b hb => hsh b (by have := hb.1; omega)).mono (G := Old (set11 w1 w.heap.size (.int .i64 e0) (.string e1) (.slice e2 r'.keys.length e4) (.slice e5 r'.l.length e7) (.int .i64 e8) (.int .i64 e9) (.float .f64 ea) (.string eb) (.slice ec ed ee) (.slice ef eg eh) (.int .i64 ei))) fun b hb => by rw [Old, hsz]; exact hb.2
  unfold set11 at hset hsb hes2
  have Hx := hide (And.intro hset (And.intro hsb hes2))
  clear hes hB0 hB1 hb0 hbw hset hsb hsh hsz hes2 hb1
  go_upto_region 2 with fail
  have hx := Hx.out
  clear Hx fz p0 p1 p2 p3 p4 p5 p6 p7 p8 p9 p10
  generalize World.setCell _ _ _ = W2 at hx ⊢
  obtain ⟨hset, hsb, hes⟩ := hx
  have HV := hide (hes.value)
  have HL := hide fun (W : World) (hb : Below W2.heap.size W2 W) => orderlyValues_calls r'.l _ _ W (hes.listing.at_ hb)
  have HK := hide fun (W : World) (hb : Below W2.heap.size W2 W) => keySorted_calls r' W _ (hes.at_ hb)
  have HO := hide (orderly_all r'.v)
  obtain ⟨p0, p1, p2, p3, p4, p5, p6, p7, p8, p9, p10⟩ := hset.cells11
  have hgl := hset.lt
  have H0 := hide (And.intro hset hsb)
  clear hset hsb hes
  generalize r'.l = l at *
  generalize r'.keys.length = kn at *
  go_wp2_with fail
  refine (HO.out _ _ HV.out).mono ?_
  rintro e w3 ⟨b, rfl, hb, hb3⟩
  have hB3 := H0.out.1.below hb3 H0.out.1.lt
  obtain ⟨p0, p1, p2, p3, p4, p5, p6, p7, p8, p9, p10⟩ := hB3.cells11
  have H3 := hide (And.intro hb hb3)
  have Hfin := hide (H0.out.2.trans (hb3.mono H0.out.2.size))
  clear hb hb3 hB3
  cases b
  · go_wp2_with fail
    go_ret
    exact ⟨false, rfl, (fun h => Bool.noConfusion h), Hfin.out⟩
  clear Hfin
  go_wp2_with fail
  refine (HL.out _ H3.out.2).mono ?_
  rintro e w4 ⟨b, rfl, hb, hb4⟩
  have hb4 := H3.out.2.trans (hb4.mono H3.out.2.size)
  have hB3 := H0.out.1.below hb4 H0.out.1.lt
  obtain ⟨p0, p1, p2, p3, p4, p5, p6, p7, p8, p9, p10⟩ := hB3.cells11
  have H4 := hide (And.intro hb hb4)
  have Hfin := hide (H0.out.2.trans (hb4.mono H0.out.2.size))
  clear hb hb4 hB3
  cases b
  · go_wp2_with fail
    go_ret
    exact ⟨false, rfl, (fun h => Bool.noConfusion h), Hfin.out⟩
  clear Hfin
  go_wp2_with fail
  refine (HK.out _ H4.out.2).mono ?_
  rintro e w5 ⟨b, rfl, hb, hb5⟩
  have Hb := hide (And.intro hb (H0.out.2.trans ((H4.out.2.trans (hb5.mono H4.out.2.size)).mono H0.out.2.size)))
  clear hb hb5
  go_wp2_with fail
  go_ret
  exact ⟨b, rfl, fun h => Hok.out (H3.out.1 trivial) (H4.out.1 trivial) (Hb.out.1 h), Hb.out.2⟩

end Go.Proofs.YtajeghkjppkhcaaGreat
