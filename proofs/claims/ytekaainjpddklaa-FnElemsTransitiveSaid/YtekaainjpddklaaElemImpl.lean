/-
  impl.CompareElems, impl.EqualElems.
-/
import Derived.Test.YtekaainjpddklaaElemCmp
set_option linter.unusedVariables false
set_option linter.unusedSimpArgs false
namespace Go.Proofs.Ytekaainjpddklaa
open Go.RowKit
attribute [local go_sem] run_store_float

/-- a step's struct in a block -/
theorem Bk.cells11 {W : World} {g : Nat} {t : TypeId} {x0 x1 x2 x3 x4 x5 x6 x7 x8 x9 x10 : Value} (h : Bk W g t #[x0, x1, x2, x3, x4, x5, x6, x7, x8, x9, x10]) : W.cell? ⟨g, 0, none⟩ = some x0 ∧ W.cell? ⟨g, 1, none⟩ = some x1 ∧ W.cell? ⟨g, 2, none⟩ = some x2 ∧ W.cell? ⟨g, 3, none⟩ = some x3 ∧ W.cell? ⟨g, 4, none⟩ = some x4 ∧ W.cell? ⟨g, 5, none⟩ = some x5 ∧ W.cell? ⟨g, 6, none⟩ = some x6 ∧ W.cell? ⟨g, 7, none⟩ = some x7 ∧ W.cell? ⟨g, 8, none⟩ = some x8 ∧ W.cell? ⟨g, 9, none⟩ = some x9 ∧ W.cell? ⟨g, 10, none⟩ = some x10 := ⟨h.cell 0, h.cell 1, h.cell 2, h.cell 3, h.cell 4, h.cell 5, h.cell 6, h.cell 7, h.cell 8, h.cell 9, h.cell 10⟩

/-- two steps' structs, each a block of its own -/
structure BB (w : World) (t : TypeId) (a b : Array Value) (W : World) : Prop where
  below : Below w.heap.size w W
  a : Bk W w.heap.size t a
  b : Bk W (w.heap.size + 1) t b
theorem BB.call {w W W' : World} {t : TypeId} {a b : Array Value} (h : BB w t a b W) (hb : Below W.heap.size W W') : BB w t a b W' :=
  ⟨h.below.trans (hb.mono h.below.size), h.a.below hb h.a.lt, h.b.below hb h.b.lt⟩
theorem BB.made (w : World) (t : TypeId) (a b : Array Value) : BB w t a b ((w.alloc (.cells a t)).alloc (.cells b t)) := by
  refine ⟨below_two w _ _, (Bk.new _ _ _).alloc _, ?_⟩
  have := Bk.new (w.alloc (.cells a t)) t b
  simpa only [World.size_alloc] using this

set_option maxRecDepth 100000 in
set_option maxHeartbeats 2000000 in
theorem implCompareElems_calls (r1 r2 : REl) (w : World) (cs1 cs2 : List Value) (h1 : ElemAt (Old w) w r1 cs1) (h2 : ElemAt (Old w) w r2 cs2) : Calls Try.prog 55 #[.agg cs1.toArray, .agg cs2.toArray] w (CmpPost (E.cmp r1.elem r2.elem) w) := by
  have H1 := hide fun (W : World) (hb : Below w.heap.size w W) => toElem_calls r1 W _ (h1.at_ hb)
  have H2 := hide fun (W : World) (hb : Below w.heap.size w W) => toElem_calls r2 W _ (h2.at_ hb)
  generalize r1.elem = e1 at *
  generalize r2.elem = e2 at *
  obtain ⟨a0, a1, a2, a3, a4, a5, a6, a7, a8, a9, aa, ab, ac, ad, ae, af, ag, ah, ai, rfl⟩ := h1.form
  obtain ⟨c0, c1, c2, c3, c4, c5, c6, c7, c8, c9, ca, cb, cc, cd, ce, cf, cg, ch, ci, rfl⟩ := h2.form
  obtain ⟨d, hd⟩ : ∃ d, E.cmp e1 e2 = d := ⟨_, rfl⟩
  rw [hd]
  have Hd := hide hd
  clear h1 h2 hd
  go_enter Try.func55, Try.ntmps55
  go_wp2_with fail
  have st := BB.made w 76 #[.int .i64 a0, .string a1, .slice a2 a3 a4, .slice a5 a6 a7, .int .i64 a8, .int .i64 a9, .float .f64 aa, .string ab, .slice ac ad ae, .slice af ag ah, .int .i64 ai] #[.int .i64 c0, .string c1, .slice c2 c3 c4, .slice c5 c6 c7, .int .i64 c8, .int .i64 c9, .float .f64 ca, .string cb, .slice cc cd ce, .slice cf cg ch, .int .i64 ci]
  generalize World.alloc (World.alloc w _) _ = W at st ⊢
  replace st := st.call (below_drew (Below.refl _ _))
  have hS0 := st
  obtain ⟨S, hS⟩ : ∃ S, BB w 76 #[.int .i64 a0, .string a1, .slice a2 a3 a4, .slice a5 a6 a7, .int .i64 a8, .int .i64 a9, .float .f64 aa, .string ab, .slice ac ad ae, .slice af ag ah, .int .i64 ai] #[.int .i64 c0, .string c1, .slice c2 c3 c4, .slice c5 c6 c7, .int .i64 c8, .int .i64 c9, .float .f64 ca, .string cb, .slice cc cd ce, .slice cf cg ch, .int .i64 ci] = S := ⟨_, rfl⟩
  rw [hS] at hS0
  refine wp_region_head 4 S (by rfl) (by kernel_rfl) ?_
  refine HT.take 0 (v := ?_) rfl (by kernel_rfl) (fun _ _ _ h => h) (Or.inl ⟨by rfl, ?_⟩) (by assumption) ?_
  rotate_left
  · intro W hSw; rw [← hS] at hSw; obtain ⟨s0, s1, s2, s3, s4, s5, s6, s7, s8, s9, s10⟩ := hSw.a.cells11; obtain ⟨t0, t1, t2, t3, t4, t5, t6, t7, t8, t9, t10⟩ := hSw.b.cells11; clear hSw; go_simp; with_reducible rfl
  simp only [Act.put, List.setIfInBounds_toArray, List.set_cons_zero, List.set_cons_succ]
  refine HT.take 2 (v := ?_) rfl (by kernel_rfl) (fun _ _ _ h => h) (Or.inl ⟨by rfl, ?_⟩) (by assumption) ?_
  rotate_left
  · intro W hSw; rw [← hS] at hSw; obtain ⟨s0, s1, s2, s3, s4, s5, s6, s7, s8, s9, s10⟩ := hSw.a.cells11; obtain ⟨t0, t1, t2, t3, t4, t5, t6, t7, t8, t9, t10⟩ := hSw.b.cells11; clear hSw; go_simp; with_reducible rfl
  simp only [Act.put, List.setIfInBounds_toArray, List.set_cons_zero, List.set_cons_succ]
  refine HT.one 1 rfl (by kernel_rfl) (by rfl) (fun K hK => ?_)
  go_simp
  refine (H1.out _ st.below).mono ?_
  rintro e w1 ⟨p1, rfl, hp1, hb1⟩
  have st1 := st.call hb1
  obtain ⟨m0, m1, m2, m3, rfl⟩ := hp1.form
  go_simp
  refine hK.out _ _ (by rw [← hS]; exact st1) ?_
  clear hK
  refine HT.one 3 rfl (by kernel_rfl) (by rfl) (fun K hK => ?_)
  go_simp
  refine (H2.out _ st1.below).mono ?_
  rintro e w2 ⟨p2, rfl, hp2, hb2⟩
  have st2 := st1.call hb2
  obtain ⟨n0, n1, n2, n3, rfl⟩ := hp2.form
  go_simp
  refine hK.out _ _ (by rw [← hS]; exact st2) ?_
  clear hK
  refine HT.done (by kernel_rfl) ?_
  simp only [List.drop_succ_cons, List.drop_zero]
  have hq := peCompare_calls ((hp1.mono (G := Old w1) fun b hb => hb.2).at_ hb2) (hp2.mono (G := Old w2) fun b hb => hb.2)
  rw [Hd.out] at hq
  have Hq := hide hq
  have Hb := hide st2.below
  clear hS0 hS hp1 hp2 hb1 hb2 st1 st2 st hq
  go_wp2_with fail
  refine Hq.out.mono ?_
  rintro e w3 ⟨rfl, hb3⟩
  have Hb3 := hide (Hb.out.trans (hb3.mono Hb.out.size))
  clear hb3
  go_wp2
  go_ret
  exact ⟨rfl, Hb3.out⟩

set_option maxRecDepth 100000 in
set_option maxHeartbeats 2000000 in
theorem implEqualElems_calls (r1 r2 : REl) (w : World) (cs1 cs2 : List Value) (h1 : ElemAt (Old w) w r1 cs1) (h2 : ElemAt (Old w) w r2 cs2) : Calls Try.prog 54 #[.agg cs1.toArray, .agg cs2.toArray] w (EqPost (E.eqv r1.elem r2.elem) w) := by
  have H1 := hide fun (W : World) (hb : Below w.heap.size w W) => toElem_calls r1 W _ (h1.at_ hb)
  have H2 := hide fun (W : World) (hb : Below w.heap.size w W) => toElem_calls r2 W _ (h2.at_ hb)
  generalize r1.elem = e1 at *
  generalize r2.elem = e2 at *
  obtain ⟨a0, a1, a2, a3, a4, a5, a6, a7, a8, a9, aa, ab, ac, ad, ae, af, ag, ah, ai, rfl⟩ := h1.form
  obtain ⟨c0, c1, c2, c3, c4, c5, c6, c7, c8, c9, ca, cb, cc, cd, ce, cf, cg, ch, ci, rfl⟩ := h2.form
  obtain ⟨d, hd⟩ : ∃ d, E.eqv e1 e2 = d := ⟨_, rfl⟩
  rw [hd]
  have Hd := hide hd
  clear h1 h2 hd
  go_enter Try.func54, Try.ntmps54
  go_wp2_with fail
  have st := BB.made w 76 #[.int .i64 a0, .string a1, .slice a2 a3 a4, .slice a5 a6 a7, .int .i64 a8, .int .i64 a9, .float .f64 aa, .string ab, .slice ac ad ae, .slice af ag ah, .int .i64 ai] #[.int .i64 c0, .string c1, .slice c2 c3 c4, .slice c5 c6 c7, .int .i64 c8, .int .i64 c9, .float .f64 ca, .string cb, .slice cc cd ce, .slice cf cg ch, .int .i64 ci]
  generalize World.alloc (World.alloc w _) _ = W at st ⊢
  replace st := st.call (below_drew (Below.refl _ _))
  have hS0 := st
  obtain ⟨S, hS⟩ : ∃ S, BB w 76 #[.int .i64 a0, .string a1, .slice a2 a3 a4, .slice a5 a6 a7, .int .i64 a8, .int .i64 a9, .float .f64 aa, .string ab, .slice ac ad ae, .slice af ag ah, .int .i64 ai] #[.int .i64 c0, .string c1, .slice c2 c3 c4, .slice c5 c6 c7, .int .i64 c8, .int .i64 c9, .float .f64 ca, .string cb, .slice cc cd ce, .slice cf cg ch, .int .i64 ci] = S := ⟨_, rfl⟩
  rw [hS] at hS0
  refine wp_region_head 4 S (by rfl) (by kernel_rfl) ?_
  refine HT.take 0 (v := ?_) rfl (by kernel_rfl) (fun _ _ _ h => h) (Or.inl ⟨by rfl, ?_⟩) (by assumption) ?_
  rotate_left
  · intro W hSw; rw [← hS] at hSw; obtain ⟨s0, s1, s2, s3, s4, s5, s6, s7, s8, s9, s10⟩ := hSw.a.cells11; obtain ⟨t0, t1, t2, t3, t4, t5, t6, t7, t8, t9, t10⟩ := hSw.b.cells11; clear hSw; go_simp; with_reducible rfl
  simp only [Act.put, List.setIfInBounds_toArray, List.set_cons_zero, List.set_cons_succ]
  refine HT.take 2 (v := ?_) rfl (by kernel_rfl) (fun _ _ _ h => h) (Or.inl ⟨by rfl, ?_⟩) (by assumption) ?_
  rotate_left
  · intro W hSw; rw [← hS] at hSw; obtain ⟨s0, s1, s2, s3, s4, s5, s6, s7, s8, s9, s10⟩ := hSw.a.cells11; obtain ⟨t0, t1, t2, t3, t4, t5, t6, t7, t8, t9, t10⟩ := hSw.b.cells11; clear hSw; go_simp; with_reducible rfl
  simp only [Act.put, List.setIfInBounds_toArray, List.set_cons_zero, List.set_cons_succ]
  refine HT.one 1 rfl (by kernel_rfl) (by rfl) (fun K hK => ?_)
  go_simp
  refine (H1.out _ st.below).mono ?_
  rintro e w1 ⟨p1, rfl, hp1, hb1⟩
  have st1 := st.call hb1
  obtain ⟨m0, m1, m2, m3, rfl⟩ := hp1.form
  go_simp
  refine hK.out _ _ (by rw [← hS]; exact st1) ?_
  clear hK
  refine HT.one 3 rfl (by kernel_rfl) (by rfl) (fun K hK => ?_)
  go_simp
  refine (H2.out _ st1.below).mono ?_
  rintro e w2 ⟨p2, rfl, hp2, hb2⟩
  have st2 := st1.call hb2
  obtain ⟨n0, n1, n2, n3, rfl⟩ := hp2.form
  go_simp
  refine hK.out _ _ (by rw [← hS]; exact st2) ?_
  clear hK
  refine HT.done (by kernel_rfl) ?_
  simp only [List.drop_succ_cons, List.drop_zero]
  have hq := peEquals_calls ((hp1.mono (G := Old w1) fun b hb => hb.2).at_ hb2) (hp2.mono (G := Old w2) fun b hb => hb.2)
  rw [Hd.out] at hq
  have Hq := hide hq
  have Hb := hide st2.below
  clear hS0 hS hp1 hp2 hb1 hb2 st1 st2 st hq
  go_wp2_with fail
  refine Hq.out.mono ?_
  rintro e w3 ⟨rfl, hb3⟩
  have Hb3 := hide (Hb.out.trans (hb3.mono Hb.out.size))
  clear hb3
  go_wp2
  go_ret
  exact ⟨rfl, Hb3.out⟩

end Go.Proofs.Ytekaainjpddklaa
