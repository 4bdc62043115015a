/- Parts: ElemSp2, SetP, SpecWalk. -/
import Derived.Test.YtbicoknghdgahaaGreatKB09
import Derived.Test.YtbicoknghdgahaaGreatKB12
import Derived.Test.YtbicoknghdgahaaGreatSA01
set_option linter.unusedVariables false
set_option linter.unusedSimpArgs false
namespace Go.Proofs.YtbicoknghdgahaaGreat
open Go.RowKit
attribute [local go_sem] run_store_float

theorem cmp_cases (r1 r2 : REl) (h : r1.elem.ord = r2.elem.ord) : (r1.elem.ord = 1 ∧ E.cmp r1.elem r2.elem = T.cmpM r1.fl r2.fl) ∨ (r1.elem.ord = 2 ∧ E.cmp r1.elem r2.elem = T.cmp r1.v.tree r2.v.tree) ∨ (r1.elem.ord = 3 ∧ E.cmp r1.elem r2.elem = cmpI r1.n r2.n) ∨ (r1.elem.ord = 0 ∧ E.cmp r1.elem r2.elem = cmpS r1.s r2.s) := by
 unfold REl.elem at *
 repeat' split at h
 all_goals first | (simp [E.ord] at h; done) | skip
 ·exact .inl ⟨by simp_all [E.ord], by simp_all [E.cmp, REl.fl]⟩
 ·exact .inr (.inl ⟨by simp_all [E.ord], by simp_all [E.cmp]⟩)
 ·exact .inr (.inr (.inl ⟨by simp_all [E.ord], by simp_all [E.cmp]⟩))
 ·exact .inr (.inr (.inr ⟨by simp_all [E.ord], by simp_all [E.cmp]⟩))
theorem cmpI_ne {a b : Int} (h : a ≠ b) : cmpI a b = -1 ∨ cmpI a b = 1 := by
 unfold cmpI
 split
 ·exact .inl rfl
 ·rw [if_pos (by omega)]; exact .inr rfl

set_option maxRecDepth 100000 in
set_option maxHeartbeats 4000000 in
theorem specCE_ne (r1 r2 : REl) (w : World) (cs1 cs2 : List Value) (h1 : ElemAt (Old w) w r1 cs1) (h2 : ElemAt (Old w) w r2 cs2) (ho : r1.elem.ord ≠ r2.elem.ord) : Calls Tryz.prog 186 #[.agg cs1.toArray, .agg cs2.toArray] w (CmpPost (E.cmp r1.elem r2.elem) w) := by
 obtain ⟨a0, a1, a2, a3, a4, a5, a6, a7, a8, a9, aa, ab, ac, ad, ae, af, ag, ah, ai, rfl⟩ := h1.form
 obtain ⟨b0, b1, b2, b3, b4, b5, b6, b7, b8, b9, ba, bb, bc, bd, be, bf, bg, bh, bi, rfl⟩ := h2.form
 obtain ⟨rfl, rfl, rfl, hs1⟩ := h1.parts
 obtain ⟨rfl, rfl, rfl, hs2⟩ := h2.parts
 have R1 := hide fun (W : World) (hb : Below w.heap.size w W) => elemRank_calls r1 W _ (h1.at_ hb)
 have R2 := hide fun (W : World) (hb : Below w.heap.size w W) => elemRank_calls r2 W _ (h2.at_ hb)
 rw [E.cmp_ord ho]
 have HI := hide fun (W : World) => specInts_calls r1.elem.ord r2.elem.ord W
 have hv := cmpI_ne ho
 generalize cmpI r1.elem.ord r2.elem.ord = v at *
 generalize r1.elem.ord = o1 at *
 generalize r2.elem.ord = o2 at *
 clear h1 h2 hs1 hs2 ho
 have Hv := hide hv
 clear hv
 go_enter Tryz.func186, Tryz.ntmps186
 go_upto_region 1 with fail
 have st := BB.made w 29 #[.int .i64 r1.kind, .string r1.s, .slice a2 a3 a4, .slice a5 a6 a7, .int .i64 a8, .int .i64 a9, .float .f64 aa, .string ab, .slice ac ad ae, .slice af ag ah, .int .i64 r1.n] #[.int .i64 r2.kind, .string r2.s, .slice b2 b3 b4, .slice b5 b6 b7, .int .i64 b8, .int .i64 b9, .float .f64 ba, .string bb, .slice bc bd be, .slice bf bg bh, .int .i64 r2.n]
 generalize World.alloc (World.alloc w _) _ = W at st ⊢
 replace st := st.call (below_drew (Below.refl _ _))
 have hS0 := st
 obtain ⟨S, hS⟩ : ∃ S, BB w 29 #[.int .i64 r1.kind, .string r1.s, .slice a2 a3 a4, .slice a5 a6 a7, .int .i64 a8, .int .i64 a9, .float .f64 aa, .string ab, .slice ac ad ae, .slice af ag ah, .int .i64 r1.n] #[.int .i64 r2.kind, .string r2.s, .slice b2 b3 b4, .slice b5 b6 b7, .int .i64 b8, .int .i64 b9, .float .f64 ba, .string bb, .slice bc bd be, .slice bf bg bh, .int .i64 r2.n] = S := ⟨_, rfl⟩
 rw [hS] at hS0
 refine wp_region_head 5 S (by rfl) (by kernel_rfl) ?_
 have hX := hide (fun (W : World) (hSw : S W) => have hSw := Eq.mpr (congrFun hS W) hSw; And.intro (hSw.a.cells11) (hSw.b.cells11))
 refine HT.take 0 (v := ?_) rfl (by kernel_rfl) (fun _ _ _ h => h) (Or.inl ⟨by rfl, ?_⟩) ‹_› ?_
 rotate_left
 ·intro W hSw; have hSw := hX.out W hSw; go_simp; with_reducible rfl
 simp only [Act.put, zzA, zzZ, zzS]
 refine HT.take 2 (v := ?_) rfl (by kernel_rfl) (fun _ _ _ h => h) (Or.inl ⟨by rfl, ?_⟩) ‹_› ?_
 rotate_left
 ·intro W hSw; have hSw := hX.out W hSw; go_simp; with_reducible rfl
 simp only [Act.put, zzA, zzZ, zzS]
 clear hX
 refine HT.one 1 rfl (by kernel_rfl) (by rfl) (fun K hK => ?_)
 go_simp
 refine (R1.out _ st.below).mono ?_
 rintro e w1 ⟨rfl, hb1⟩
 have st1 := st.call hb1
 go_simp
 refine hK.out _ _ (by rw [← hS]; exact st1) ?_
 clear hK
 refine HT.one 3 rfl (by kernel_rfl) (by rfl) (fun K hK => ?_)
 go_simp
 refine (R2.out _ st1.below).mono ?_
 rintro e w2 ⟨rfl, hb2⟩
 have st2 := st1.call hb2
 go_simp
 refine hK.out _ _ (by rw [← hS]; exact st2) ?_
 clear hK
 refine HT.one 4 rfl (by kernel_rfl) (by rfl) (fun K hK => ?_)
 go_simp
 refine (HI.out _).mono ?_
 rintro e w3 ⟨rfl, rfl⟩
 go_simp
 refine hK.out _ _ (by rw [← hS]; exact st2) ?_
 clear hK
 refine HT.done (by kernel_rfl) ?_
 simp only [List.drop_succ_cons, List.drop_zero]
 have Hb := hide st2.below
 clear hS0 hS hb1 hb2 st1 st2 st R1 R2 HI
 rcases Hv.out with rfl | rfl
 all_goals
  go_wp2
  go_ret
  exact ⟨rfl, Hb.out⟩

set_option maxRecDepth 100000 in
set_option maxHeartbeats 4000000 in
theorem specCE_1 (r1 r2 : REl) (w : World) (cs1 cs2 : List Value) (h1 : ElemAt (Old w) w r1 cs1) (h2 : ElemAt (Old w) w r2 cs2) (h3 : r1.elem.ord = 1) (h4 : r2.elem.ord = 1) (h5 : E.cmp r1.elem r2.elem = T.cmpM r1.fl r2.fl) : Calls Tryz.prog 186 #[.agg cs1.toArray, .agg cs2.toArray] w (CmpPost (E.cmp r1.elem r2.elem) w) := by
 obtain ⟨a0, a1, a2, a3, a4, a5, a6, a7, a8, a9, aa, ab, ac, ad, ae, af, ag, ah, ai, rfl⟩ := h1.form
 obtain ⟨b0, b1, b2, b3, b4, b5, b6, b7, b8, b9, ba, bb, bc, bd, be, bf, bg, bh, bi, rfl⟩ := h2.form
 obtain ⟨rfl, rfl, rfl, hs1⟩ := h1.parts
 obtain ⟨rfl, rfl, rfl, hs2⟩ := h2.parts
 have R1 := hide fun (W : World) (hb : Below w.heap.size w W) => elemRank_calls r1 W _ (h1.at_ hb)
 have R2 := hide fun (W : World) (hb : Below w.heap.size w W) => elemRank_calls r2 W _ (h2.at_ hb)
 have HX := hide fun (W : World) (hb : Below w.heap.size w W) => compareKeys_calls r1 r2 W _ _ (h1.at_ hb) (h2.at_ hb)
 have HI := hide fun (W : World) => (show Calls Tryz.prog 176 #[.int .i64 1, .int .i64 1] W fun e w' => e = .returned (.int .i64 0) ∧ W = w' from specInts_calls 1 1 W)
 rw [h3] at R1
 rw [h4] at R2
 rw [h5]
 generalize T.cmpM r1.fl r2.fl = v at *
 clear h1 h2 hs1 hs2 h3 h4 h5
 go_enter Tryz.func186, Tryz.ntmps186
 go_upto_region 1 with fail
 have st := BB.made w 29 #[.int .i64 r1.kind, .string r1.s, .slice a2 a3 a4, .slice a5 a6 a7, .int .i64 a8, .int .i64 a9, .float .f64 aa, .string ab, .slice ac ad ae, .slice af ag ah, .int .i64 r1.n] #[.int .i64 r2.kind, .string r2.s, .slice b2 b3 b4, .slice b5 b6 b7, .int .i64 b8, .int .i64 b9, .float .f64 ba, .string bb, .slice bc bd be, .slice bf bg bh, .int .i64 r2.n]
 generalize World.alloc (World.alloc w _) _ = W at st ⊢
 replace st := st.call (below_drew (Below.refl _ _))
 have hS0 := st
 obtain ⟨S, hS⟩ : ∃ S, BB w 29 #[.int .i64 r1.kind, .string r1.s, .slice a2 a3 a4, .slice a5 a6 a7, .int .i64 a8, .int .i64 a9, .float .f64 aa, .string ab, .slice ac ad ae, .slice af ag ah, .int .i64 r1.n] #[.int .i64 r2.kind, .string r2.s, .slice b2 b3 b4, .slice b5 b6 b7, .int .i64 b8, .int .i64 b9, .float .f64 ba, .string bb, .slice bc bd be, .slice bf bg bh, .int .i64 r2.n] = S := ⟨_, rfl⟩
 rw [hS] at hS0
 refine wp_region_head 5 S (by rfl) (by kernel_rfl) ?_
 have hX := hide (fun (W : World) (hSw : S W) => have hSw := Eq.mpr (congrFun hS W) hSw; And.intro (hSw.a.cells11) (hSw.b.cells11))
 refine HT.take 0 (v := ?_) rfl (by kernel_rfl) (fun _ _ _ h => h) (Or.inl ⟨by rfl, ?_⟩) ‹_› ?_
 rotate_left
 ·intro W hSw; have hSw := hX.out W hSw; go_simp; with_reducible rfl
 simp only [Act.put, zzA, zzZ, zzS]
 refine HT.take 2 (v := ?_) rfl (by kernel_rfl) (fun _ _ _ h => h) (Or.inl ⟨by rfl, ?_⟩) ‹_› ?_
 rotate_left
 ·intro W hSw; have hSw := hX.out W hSw; go_simp; with_reducible rfl
 simp only [Act.put, zzA, zzZ, zzS]
 clear hX
 refine HT.one 1 rfl (by kernel_rfl) (by rfl) (fun K hK => ?_)
 go_simp
 refine (R1.out _ st.below).mono ?_
 rintro e w1 ⟨rfl, hb1⟩
 have st1 := st.call hb1
 go_simp
 refine hK.out _ _ (by rw [← hS]; exact st1) ?_
 clear hK
 refine HT.one 3 rfl (by kernel_rfl) (by rfl) (fun K hK => ?_)
 go_simp
 refine (R2.out _ st1.below).mono ?_
 rintro e w2 ⟨rfl, hb2⟩
 have st2 := st1.call hb2
 go_simp
 refine hK.out _ _ (by rw [← hS]; exact st2) ?_
 clear hK
 refine HT.one 4 rfl (by kernel_rfl) (by rfl) (fun K hK => ?_)
 go_simp
 refine (HI.out _).mono ?_
 rintro e w3 ⟨rfl, rfl⟩
 go_simp
 refine hK.out _ _ (by rw [← hS]; exact st2) ?_
 clear hK
 refine HT.done (by kernel_rfl) ?_
 simp only [List.drop_succ_cons, List.drop_zero]
 obtain ⟨p0, p1, p2, p3, p4, p5, p6, p7, p8, p9, p10⟩ := st2.a.cells11
 obtain ⟨q0, q1, q2, q3, q4, q5, q6, q7, q8, q9, q10⟩ := st2.b.cells11
 have Hst := hide st2
 clear hS0 hS hb1 hb2 st1 st2 st R2 HI
 go_wp2_with fail
 refine (R1.out _ Hst.out.below).mono ?_
 rintro e w4 ⟨rfl, hb4⟩
 have st4 := Hst.out.call hb4
 clear hb4 p0 p1 p2 p3 p4 p5 p6 p7 p8 p9 p10 q0 q1 q2 q3 q4 q5 q6 q7 q8 q9 q10 Hst R1
 obtain ⟨p0, p1, p2, p3, p4, p5, p6, p7, p8, p9, p10⟩ := st4.a.cells11
 obtain ⟨q0, q1, q2, q3, q4, q5, q6, q7, q8, q9, q10⟩ := st4.b.cells11
 have Hst := hide st4
 clear st4
 go_wp2_with fail
 refine (HX.out _ Hst.out.below).mono ?_
 rintro e w5 ⟨rfl, hb5⟩
 have Hb5 := hide (Hst.out.below.trans (hb5.mono Hst.out.below.size))
 clear hb5
 go_wp2
 go_ret
 exact ⟨rfl, Hb5.out⟩

set_option maxRecDepth 100000 in
set_option maxHeartbeats 4000000 in
theorem specCE_2 (r1 r2 : REl) (w : World) (cs1 cs2 : List Value) (h1 : ElemAt (Old w) w r1 cs1) (h2 : ElemAt (Old w) w r2 cs2) (h3 : r1.elem.ord = 2) (h4 : r2.elem.ord = 2) (h5 : E.cmp r1.elem r2.elem = T.cmp r1.v.tree r2.v.tree) : Calls Tryz.prog 186 #[.agg cs1.toArray, .agg cs2.toArray] w (CmpPost (E.cmp r1.elem r2.elem) w) := by
 obtain ⟨a0, a1, a2, a3, a4, a5, a6, a7, a8, a9, aa, ab, ac, ad, ae, af, ag, ah, ai, rfl⟩ := h1.form
 obtain ⟨b0, b1, b2, b3, b4, b5, b6, b7, b8, b9, ba, bb, bc, bd, be, bf, bg, bh, bi, rfl⟩ := h2.form
 obtain ⟨rfl, rfl, rfl, hs1⟩ := h1.parts
 obtain ⟨rfl, rfl, rfl, hs2⟩ := h2.parts
 have R1 := hide fun (W : World) (hb : Below w.heap.size w W) => elemRank_calls r1 W _ (h1.at_ hb)
 have R2 := hide fun (W : World) (hb : Below w.heap.size w W) => elemRank_calls r2 W _ (h2.at_ hb)
 have HX := hide fun (W : World) (hb : Below w.heap.size w W) => specCompare_calls r1.v r2.v W _ _ (h1.value.at_ hb) (h2.value.at_ hb)
 have HI := hide fun (W : World) => (show Calls Tryz.prog 176 #[.int .i64 2, .int .i64 2] W fun e w' => e = .returned (.int .i64 0) ∧ W = w' from specInts_calls 2 2 W)
 rw [h3] at R1
 rw [h4] at R2
 rw [h5]
 generalize T.cmp r1.v.tree r2.v.tree = v at *
 clear h1 h2 hs1 hs2 h3 h4 h5
 go_enter Tryz.func186, Tryz.ntmps186
 go_upto_region 1 with fail
 have st := BB.made w 29 #[.int .i64 r1.kind, .string r1.s, .slice a2 a3 a4, .slice a5 a6 a7, .int .i64 a8, .int .i64 a9, .float .f64 aa, .string ab, .slice ac ad ae, .slice af ag ah, .int .i64 r1.n] #[.int .i64 r2.kind, .string r2.s, .slice b2 b3 b4, .slice b5 b6 b7, .int .i64 b8, .int .i64 b9, .float .f64 ba, .string bb, .slice bc bd be, .slice bf bg bh, .int .i64 r2.n]
 generalize World.alloc (World.alloc w _) _ = W at st ⊢
 replace st := st.call (below_drew (Below.refl _ _))
 have hS0 := st
 obtain ⟨S, hS⟩ : ∃ S, BB w 29 #[.int .i64 r1.kind, .string r1.s, .slice a2 a3 a4, .slice a5 a6 a7, .int .i64 a8, .int .i64 a9, .float .f64 aa, .string ab, .slice ac ad ae, .slice af ag ah, .int .i64 r1.n] #[.int .i64 r2.kind, .string r2.s, .slice b2 b3 b4, .slice b5 b6 b7, .int .i64 b8, .int .i64 b9, .float .f64 ba, .string bb, .slice bc bd be, .slice bf bg bh, .int .i64 r2.n] = S := ⟨_, rfl⟩
 rw [hS] at hS0
 refine wp_region_head 5 S (by rfl) (by kernel_rfl) ?_
 have hX := hide (fun (W : World) (hSw : S W) => have hSw := Eq.mpr (congrFun hS W) hSw; And.intro (hSw.a.cells11) (hSw.b.cells11))
 refine HT.take 0 (v := ?_) rfl (by kernel_rfl) (fun _ _ _ h => h) (Or.inl ⟨by rfl, ?_⟩) ‹_› ?_
 rotate_left
 ·intro W hSw; have hSw := hX.out W hSw; go_simp; with_reducible rfl
 simp only [Act.put, zzA, zzZ, zzS]
 refine HT.take 2 (v := ?_) rfl (by kernel_rfl) (fun _ _ _ h => h) (Or.inl ⟨by rfl, ?_⟩) ‹_› ?_
 rotate_left
 ·intro W hSw; have hSw := hX.out W hSw; go_simp; with_reducible rfl
 simp only [Act.put, zzA, zzZ, zzS]
 clear hX
 refine HT.one 1 rfl (by kernel_rfl) (by rfl) (fun K hK => ?_)
 go_simp
 refine (R1.out _ st.below).mono ?_
 rintro e w1 ⟨rfl, hb1⟩
 have st1 := st.call hb1
 go_simp
 refine hK.out _ _ (by rw [← hS]; exact st1) ?_
 clear hK
 refine HT.one 3 rfl (by kernel_rfl) (by rfl) (fun K hK => ?_)
 go_simp
 refine (R2.out _ st1.below).mono ?_
 rintro e w2 ⟨rfl, hb2⟩
 have st2 := st1.call hb2
 go_simp
 refine hK.out _ _ (by rw [← hS]; exact st2) ?_
 clear hK
 refine HT.one 4 rfl (by kernel_rfl) (by rfl) (fun K hK => ?_)
 go_simp
 refine (HI.out _).mono ?_
 rintro e w3 ⟨rfl, rfl⟩
 go_simp
 refine hK.out _ _ (by rw [← hS]; exact st2) ?_
 clear hK
 refine HT.done (by kernel_rfl) ?_
 simp only [List.drop_succ_cons, List.drop_zero]
 obtain ⟨p0, p1, p2, p3, p4, p5, p6, p7, p8, p9, p10⟩ := st2.a.cells11
 obtain ⟨q0, q1, q2, q3, q4, q5, q6, q7, q8, q9, q10⟩ := st2.b.cells11
 have Hst := hide st2
 clear hS0 hS hb1 hb2 st1 st2 st R2 HI
 go_wp2_with fail
 refine (R1.out _ Hst.out.below).mono ?_
 rintro e w4 ⟨rfl, hb4⟩
 have st4 := Hst.out.call hb4
 clear hb4 p0 p1 p2 p3 p4 p5 p6 p7 p8 p9 p10 q0 q1 q2 q3 q4 q5 q6 q7 q8 q9 q10 Hst R1
 obtain ⟨p0, p1, p2, p3, p4, p5, p6, p7, p8, p9, p10⟩ := st4.a.cells11
 obtain ⟨q0, q1, q2, q3, q4, q5, q6, q7, q8, q9, q10⟩ := st4.b.cells11
 have Hst := hide st4
 clear st4
 go_wp2_with fail
 refine (HX.out _ Hst.out.below).mono ?_
 rintro e w5 ⟨rfl, hb5⟩
 have Hb5 := hide (Hst.out.below.trans (hb5.mono Hst.out.below.size))
 clear hb5
 go_wp2
 go_ret
 exact ⟨rfl, Hb5.out⟩

set_option maxRecDepth 100000 in
set_option maxHeartbeats 4000000 in
theorem specCE_3 (r1 r2 : REl) (w : World) (cs1 cs2 : List Value) (h1 : ElemAt (Old w) w r1 cs1) (h2 : ElemAt (Old w) w r2 cs2) (h3 : r1.elem.ord = 3) (h4 : r2.elem.ord = 3) (h5 : E.cmp r1.elem r2.elem = cmpI r1.n r2.n) : Calls Tryz.prog 186 #[.agg cs1.toArray, .agg cs2.toArray] w (CmpPost (E.cmp r1.elem r2.elem) w) := by
 obtain ⟨a0, a1, a2, a3, a4, a5, a6, a7, a8, a9, aa, ab, ac, ad, ae, af, ag, ah, ai, rfl⟩ := h1.form
 obtain ⟨b0, b1, b2, b3, b4, b5, b6, b7, b8, b9, ba, bb, bc, bd, be, bf, bg, bh, bi, rfl⟩ := h2.form
 obtain ⟨rfl, rfl, rfl, hs1⟩ := h1.parts
 obtain ⟨rfl, rfl, rfl, hs2⟩ := h2.parts
 have R1 := hide fun (W : World) (hb : Below w.heap.size w W) => elemRank_calls r1 W _ (h1.at_ hb)
 have R2 := hide fun (W : World) (hb : Below w.heap.size w W) => elemRank_calls r2 W _ (h2.at_ hb)
 have HX := hide fun (W : World) (hb : Below w.heap.size w W) => specInts_calls r1.n r2.n W
 have HI := hide fun (W : World) => (show Calls Tryz.prog 176 #[.int .i64 3, .int .i64 3] W fun e w' => e = .returned (.int .i64 0) ∧ W = w' from specInts_calls 3 3 W)
 rw [h3] at R1
 rw [h4] at R2
 rw [h5]
 generalize cmpI r1.n r2.n = v at *
 clear h1 h2 hs1 hs2 h3 h4 h5
 go_enter Tryz.func186, Tryz.ntmps186
 go_upto_region 1 with fail
 have st := BB.made w 29 #[.int .i64 r1.kind, .string r1.s, .slice a2 a3 a4, .slice a5 a6 a7, .int .i64 a8, .int .i64 a9, .float .f64 aa, .string ab, .slice ac ad ae, .slice af ag ah, .int .i64 r1.n] #[.int .i64 r2.kind, .string r2.s, .slice b2 b3 b4, .slice b5 b6 b7, .int .i64 b8, .int .i64 b9, .float .f64 ba, .string bb, .slice bc bd be, .slice bf bg bh, .int .i64 r2.n]
 generalize World.alloc (World.alloc w _) _ = W at st ⊢
 replace st := st.call (below_drew (Below.refl _ _))
 have hS0 := st
 obtain ⟨S, hS⟩ : ∃ S, BB w 29 #[.int .i64 r1.kind, .string r1.s, .slice a2 a3 a4, .slice a5 a6 a7, .int .i64 a8, .int .i64 a9, .float .f64 aa, .string ab, .slice ac ad ae, .slice af ag ah, .int .i64 r1.n] #[.int .i64 r2.kind, .string r2.s, .slice b2 b3 b4, .slice b5 b6 b7, .int .i64 b8, .int .i64 b9, .float .f64 ba, .string bb, .slice bc bd be, .slice bf bg bh, .int .i64 r2.n] = S := ⟨_, rfl⟩
 rw [hS] at hS0
 refine wp_region_head 5 S (by rfl) (by kernel_rfl) ?_
 have hX := hide (fun (W : World) (hSw : S W) => have hSw := Eq.mpr (congrFun hS W) hSw; And.intro (hSw.a.cells11) (hSw.b.cells11))
 refine HT.take 0 (v := ?_) rfl (by kernel_rfl) (fun _ _ _ h => h) (Or.inl ⟨by rfl, ?_⟩) ‹_› ?_
 rotate_left
 ·intro W hSw; have hSw := hX.out W hSw; go_simp; with_reducible rfl
 simp only [Act.put, zzA, zzZ, zzS]
 refine HT.take 2 (v := ?_) rfl (by kernel_rfl) (fun _ _ _ h => h) (Or.inl ⟨by rfl, ?_⟩) ‹_› ?_
 rotate_left
 ·intro W hSw; have hSw := hX.out W hSw; go_simp; with_reducible rfl
 simp only [Act.put, zzA, zzZ, zzS]
 clear hX
 refine HT.one 1 rfl (by kernel_rfl) (by rfl) (fun K hK => ?_)
 go_simp
 refine (R1.out _ st.below).mono ?_
 rintro e w1 ⟨rfl, hb1⟩
 have st1 := st.call hb1
 go_simp
 refine hK.out _ _ (by rw [← hS]; exact st1) ?_
 clear hK
 refine HT.one 3 rfl (by kernel_rfl) (by rfl) (fun K hK => ?_)
 go_simp
 refine (R2.out _ st1.below).mono ?_
 rintro e w2 ⟨rfl, hb2⟩
 have st2 := st1.call hb2
 go_simp
 refine hK.out _ _ (by rw [← hS]; exact st2) ?_
 clear hK
 refine HT.one 4 rfl (by kernel_rfl) (by rfl) (fun K hK => ?_)
 go_simp
 refine (HI.out _).mono ?_
 rintro e w3 ⟨rfl, rfl⟩
 go_simp
 refine hK.out _ _ (by rw [← hS]; exact st2) ?_
 clear hK
 refine HT.done (by kernel_rfl) ?_
 simp only [List.drop_succ_cons, List.drop_zero]
 obtain ⟨p0, p1, p2, p3, p4, p5, p6, p7, p8, p9, p10⟩ := st2.a.cells11
 obtain ⟨q0, q1, q2, q3, q4, q5, q6, q7, q8, q9, q10⟩ := st2.b.cells11
 have Hst := hide st2
 clear hS0 hS hb1 hb2 st1 st2 st R2 HI
 go_wp2_with fail
 refine (R1.out _ Hst.out.below).mono ?_
 rintro e w4 ⟨rfl, hb4⟩
 have st4 := Hst.out.call hb4
 clear hb4 p0 p1 p2 p3 p4 p5 p6 p7 p8 p9 p10 q0 q1 q2 q3 q4 q5 q6 q7 q8 q9 q10 Hst R1
 obtain ⟨p0, p1, p2, p3, p4, p5, p6, p7, p8, p9, p10⟩ := st4.a.cells11
 obtain ⟨q0, q1, q2, q3, q4, q5, q6, q7, q8, q9, q10⟩ := st4.b.cells11
 have Hst := hide st4
 clear st4
 go_wp2_with fail
 refine (HX.out _ Hst.out.below).mono ?_
 rintro e w5 ⟨rfl, rfl⟩
 go_wp2
 go_ret
 exact ⟨rfl, Hst.out.below⟩

set_option maxRecDepth 100000 in
set_option maxHeartbeats 4000000 in
theorem specCE_0 (r1 r2 : REl) (w : World) (cs1 cs2 : List Value) (h1 : ElemAt (Old w) w r1 cs1) (h2 : ElemAt (Old w) w r2 cs2) (h3 : r1.elem.ord = 0) (h4 : r2.elem.ord = 0) (h5 : E.cmp r1.elem r2.elem = cmpS r1.s r2.s) : Calls Tryz.prog 186 #[.agg cs1.toArray, .agg cs2.toArray] w (CmpPost (E.cmp r1.elem r2.elem) w) := by
 obtain ⟨a0, a1, a2, a3, a4, a5, a6, a7, a8, a9, aa, ab, ac, ad, ae, af, ag, ah, ai, rfl⟩ := h1.form
 obtain ⟨b0, b1, b2, b3, b4, b5, b6, b7, b8, b9, ba, bb, bc, bd, be, bf, bg, bh, bi, rfl⟩ := h2.form
 obtain ⟨rfl, rfl, rfl, hs1⟩ := h1.parts
 obtain ⟨rfl, rfl, rfl, hs2⟩ := h2.parts
 have R1 := hide fun (W : World) (hb : Below w.heap.size w W) => elemRank_calls r1 W _ (h1.at_ hb)
 have R2 := hide fun (W : World) (hb : Below w.heap.size w W) => elemRank_calls r2 W _ (h2.at_ hb)
 have HX := hide fun (W : World) (hb : Below w.heap.size w W) => specStrings_calls r1.s r2.s hs1 hs2 W
 have HI := hide fun (W : World) => (show Calls Tryz.prog 176 #[.int .i64 0, .int .i64 0] W fun e w' => e = .returned (.int .i64 0) ∧ W = w' from specInts_calls 0 0 W)
 rw [h3] at R1
 rw [h4] at R2
 rw [h5]
 generalize cmpS r1.s r2.s = v at *
 clear h1 h2 hs1 hs2 h3 h4 h5
 go_enter Tryz.func186, Tryz.ntmps186
 go_upto_region 1 with fail
 have st := BB.made w 29 #[.int .i64 r1.kind, .string r1.s, .slice a2 a3 a4, .slice a5 a6 a7, .int .i64 a8, .int .i64 a9, .float .f64 aa, .string ab, .slice ac ad ae, .slice af ag ah, .int .i64 r1.n] #[.int .i64 r2.kind, .string r2.s, .slice b2 b3 b4, .slice b5 b6 b7, .int .i64 b8, .int .i64 b9, .float .f64 ba, .string bb, .slice bc bd be, .slice bf bg bh, .int .i64 r2.n]
 generalize World.alloc (World.alloc w _) _ = W at st ⊢
 replace st := st.call (below_drew (Below.refl _ _))
 have hS0 := st
 obtain ⟨S, hS⟩ : ∃ S, BB w 29 #[.int .i64 r1.kind, .string r1.s, .slice a2 a3 a4, .slice a5 a6 a7, .int .i64 a8, .int .i64 a9, .float .f64 aa, .string ab, .slice ac ad ae, .slice af ag ah, .int .i64 r1.n] #[.int .i64 r2.kind, .string r2.s, .slice b2 b3 b4, .slice b5 b6 b7, .int .i64 b8, .int .i64 b9, .float .f64 ba, .string bb, .slice bc bd be, .slice bf bg bh, .int .i64 r2.n] = S := ⟨_, rfl⟩
 rw [hS] at hS0
 refine wp_region_head 5 S (by rfl) (by kernel_rfl) ?_
 have hX := hide (fun (W : World) (hSw : S W) => have hSw := Eq.mpr (congrFun hS W) hSw; And.intro (hSw.a.cells11) (hSw.b.cells11))
 refine HT.take 0 (v := ?_) rfl (by kernel_rfl) (fun _ _ _ h => h) (Or.inl ⟨by rfl, ?_⟩) ‹_› ?_
 rotate_left
 ·intro W hSw; have hSw := hX.out W hSw; go_simp; with_reducible rfl
 simp only [Act.put, zzA, zzZ, zzS]
 refine HT.take 2 (v := ?_) rfl (by kernel_rfl) (fun _ _ _ h => h) (Or.inl ⟨by rfl, ?_⟩) ‹_› ?_
 rotate_left
 ·intro W hSw; have hSw := hX.out W hSw; go_simp; with_reducible rfl
 simp only [Act.put, zzA, zzZ, zzS]
 clear hX
 refine HT.one 1 rfl (by kernel_rfl) (by rfl) (fun K hK => ?_)
 go_simp
 refine (R1.out _ st.below).mono ?_
 rintro e w1 ⟨rfl, hb1⟩
 have st1 := st.call hb1
 go_simp
 refine hK.out _ _ (by rw [← hS]; exact st1) ?_
 clear hK
 refine HT.one 3 rfl (by kernel_rfl) (by rfl) (fun K hK => ?_)
 go_simp
 refine (R2.out _ st1.below).mono ?_
 rintro e w2 ⟨rfl, hb2⟩
 have st2 := st1.call hb2
 go_simp
 refine hK.out _ _ (by rw [← hS]; exact st2) ?_
 clear hK
 refine HT.one 4 rfl (by kernel_rfl) (by rfl) (fun K hK => ?_)
 go_simp
 refine (HI.out _).mono ?_
 rintro e w3 ⟨rfl, rfl⟩
 go_simp
 refine hK.out _ _ (by rw [← hS]; exact st2) ?_
 clear hK
 refine HT.done (by kernel_rfl) ?_
 simp only [List.drop_succ_cons, List.drop_zero]
 obtain ⟨p0, p1, p2, p3, p4, p5, p6, p7, p8, p9, p10⟩ := st2.a.cells11
 obtain ⟨q0, q1, q2, q3, q4, q5, q6, q7, q8, q9, q10⟩ := st2.b.cells11
 have Hst := hide st2
 clear hS0 hS hb1 hb2 st1 st2 st R2 HI
 go_wp2_with fail
 refine (R1.out _ Hst.out.below).mono ?_
 rintro e w4 ⟨rfl, hb4⟩
 have st4 := Hst.out.call hb4
 clear hb4 p0 p1 p2 p3 p4 p5 p6 p7 p8 p9 p10 q0 q1 q2 q3 q4 q5 q6 q7 q8 q9 q10 Hst R1
 obtain ⟨p0, p1, p2, p3, p4, p5, p6, p7, p8, p9, p10⟩ := st4.a.cells11
 obtain ⟨q0, q1, q2, q3, q4, q5, q6, q7, q8, q9, q10⟩ := st4.b.cells11
 have Hst := hide st4
 clear st4
 go_wp2_with fail
 refine (HX.out _ Hst.out.below).mono ?_
 rintro e w5 ⟨rfl, hb5⟩
 have Hb5 := hide (Hst.out.below.trans (hb5.mono Hst.out.below.size))
 clear hb5
 go_wp2
 go_ret
 exact ⟨rfl, Hb5.out⟩

theorem specCompareElems_calls (r1 r2 : REl) (w : World) (cs1 cs2 : List Value) (h1 : ElemAt (Old w) w r1 cs1) (h2 : ElemAt (Old w) w r2 cs2) : Calls Tryz.prog 186 #[.agg cs1.toArray, .agg cs2.toArray] w (CmpPost (E.cmp r1.elem r2.elem) w) := by
 by_cases ho : r1.elem.ord = r2.elem.ord
 ·rcases cmp_cases r1 r2 ho with ⟨h3, h4⟩ | ⟨h3, h4⟩ | ⟨h3, h4⟩ | ⟨h3, h4⟩
  ·exact specCE_1 r1 r2 w cs1 cs2 h1 h2 h3 (ho ▸ h3) h4
  ·exact specCE_2 r1 r2 w cs1 cs2 h1 h2 h3 (ho ▸ h3) h4
  ·exact specCE_3 r1 r2 w cs1 cs2 h1 h2 h3 (ho ▸ h3) h4
  ·exact specCE_0 r1 r2 w cs1 cs2 h1 h2 h3 (ho ▸ h3) h4
 ·exact specCE_ne r1 r2 w cs1 cs2 h1 h2 ho

end Go.Proofs.YtbicoknghdgahaaGreat

namespace Go.Proofs.YtbicoknghdgahaaGreat

theorem ecmp_turn (p q : List E) : ecmp q p = - ecmp p q := by
 unfold ecmp
 cases p.isEmpty <;> cases q.isEmpty <;> simp
theorem ecmp_tr (p q r : List E) : Tr (ecmp p q) (ecmp q r) (ecmp p r) := by
 unfold ecmp Tr
 cases p.isEmpty <;> cases q.isEmpty <;> cases r.isEmpty <;> simp
theorem wcmp_turn : ∀ {p q : List E}, POk p → POk q → wcmp q p = - wcmp p q
 | [], [], _, _ => by simp [wcmp]
 | [], _ :: _, _, _ => by simp [wcmp]
 | _ :: _, [], _, _ => by simp [wcmp]
 | a :: p, b :: q, h1, h2 => by
  have e := E.cmp_turn (h1 a (by simp)) (h2 b (by simp))
  have e2 := wcmp_turn (p := p) (q := q) (fun t ht => h1 t (by simp [ht])) (fun t ht => h2 t (by simp [ht]))
  rw [wcmp, wcmp, e, e2, ecmp_turn p q]
  by_cases h0 : ecmp p q = 0
  ·rw [if_pos (by omega), if_pos h0]
   by_cases h : E.cmp a b = 0
   ·rw [if_pos (by omega), if_pos h]
   ·rw [if_neg (by omega), if_neg h]
  ·rw [if_neg (by omega), if_neg h0]
theorem wcmp_tr : ∀ {x y z : List E}, POk x → POk y → POk z → Tr (wcmp x y) (wcmp y z) (wcmp x z)
 | [], [], [], _, _, _ => by simp [wcmp, Tr]
 | [], [], _ :: _, _, _, _ => by simp [wcmp, Tr]
 | [], _ :: _, [], _, _, _ => by simp [wcmp, Tr]
 | [], _ :: _, _ :: _, _, _, _ => by simp [wcmp, Tr]
 | _ :: _, [], [], _, _, _ => by simp [wcmp, Tr]
 | _ :: _, [], _ :: _, _, _, _ => by simp [wcmp, Tr]
 | _ :: _, _ :: _, [], _, _, _ => by simp [wcmp, Tr]
 | a :: x, b :: y, c :: z, h1, h2, h3 => by
  rw [wcmp, wcmp, wcmp]
  have e := wcmp_tr (x := x) (y := y) (z := z) (fun t ht => h1 t (by simp [ht])) (fun t ht => h2 t (by simp [ht])) (fun t ht => h3 t (by simp [ht]))
  exact Tr.lex (ecmp_tr x y z) fun _ _ => Tr.lex (E.cmp_tr (h1 a (by simp)) (h2 b (by simp)) (h3 c (by simp))) fun _ _ => e
theorem wcmp_ord : TOrd wcmp POk := ⟨fun h => wcmp_self h, fun h k => wcmp_turn h k, fun h k l => wcmp_tr h k l⟩
end Go.Proofs.YtbicoknghdgahaaGreat

namespace Go.Proofs.YtbicoknghdgahaaGreat
open Go.RowKit
attribute [local go_sem] run_store_float

def WCInv (w : World) (p q : List E) (s : Value) (W : World) : Prop := ∃ k : Nat, s = .int .i64 (k : Int) ∧ k ≤ p.length ∧ k ≤ q.length ∧ wcmp p q = wcmp (p.drop k) (q.drop k) ∧ Below w.heap.size w W
theorem wcmp_eqv {a b : E} {p q : List E} (h : E.cmp a b = 0) : wcmp (a :: p) (b :: q) = wcmp p q := by
 rw [wcmp]
 by_cases h0 : ecmp p q = 0
 ·rw [if_pos h0, if_pos h]
 ·rw [if_neg h0]
  cases p <;> cases q <;> simp [ecmp, wcmp] at h0 ⊢
theorem wcmp_round {p q : List E} {k : Nat} (h : wcmp p q = wcmp (p.drop k) (q.drop k)) (h1 : k < p.length) (h2 : k < q.length) : (E.cmp p[k] q[k] = 0 → wcmp p q = wcmp (p.drop (k + 1)) (q.drop (k + 1))) ∧
  (¬ E.cmp p[k] q[k] = 0 → (k + 1 = p.length → ¬ k + 1 = q.length → wcmp p q = -1) ∧ (¬ k + 1 = p.length → k + 1 = q.length → wcmp p q = 1) ∧ ((k + 1 = p.length ↔ k + 1 = q.length) → wcmp p q = E.cmp p[k] q[k])) := by
 rw [h, List.drop_eq_getElem_cons h1, List.drop_eq_getElem_cons h2]
 have e1 : (p.drop (k + 1)).isEmpty = decide (k + 1 = p.length) := by rw [Bool.eq_iff_iff, List.isEmpty_iff, List.drop_eq_nil_iff, decide_eq_true_iff]; omega
 have e2 : (q.drop (k + 1)).isEmpty = decide (k + 1 = q.length) := by rw [Bool.eq_iff_iff, List.isEmpty_iff, List.drop_eq_nil_iff, decide_eq_true_iff]; omega
 have e3 : ecmp (p.drop (k + 1)) (q.drop (k + 1)) = if decide (k + 1 = p.length) = decide (k + 1 = q.length) then 0 else if decide (k + 1 = p.length) = true then -1 else 1 := by
  unfold ecmp
  rw [e1, e2]
 refine ⟨fun e => wcmp_eqv e, fun e => ⟨fun a b => ?_, fun a b => ?_, fun a => ?_⟩⟩
 ·have h0 : ecmp (p.drop (k + 1)) (q.drop (k + 1)) = -1 := by rw [e3, decide_eq_true a, decide_eq_false b]; rfl
  rw [wcmp, h0]
  rfl
 ·have h0 : ecmp (p.drop (k + 1)) (q.drop (k + 1)) = 1 := by rw [e3, decide_eq_true b, decide_eq_false a]; rfl
  rw [wcmp, h0]
  rfl
 ·have h0 : ecmp (p.drop (k + 1)) (q.drop (k + 1)) = 0 := by rw [e3, if_pos (by rw [Bool.eq_iff_iff, decide_eq_true_iff, decide_eq_true_iff]; exact a)]
  rw [wcmp, h0, if_pos rfl, if_neg e]
theorem wcmp_end {p q : List E} {k : Nat} (h : wcmp p q = wcmp (p.drop k) (q.drop k)) (h1 : k ≤ p.length) (h2 : k ≤ q.length) (h3 : k = p.length ∨ k = q.length) : wcmp p q = cmpI (p.length : Int) (q.length : Int) := by
 rw [h]
 unfold cmpI
 rcases h3 with rfl | rfl
 ·rw [List.drop_length]
  by_cases h4 : p.length < q.length
  ·rw [List.drop_eq_getElem_cons h4, wcmp, if_pos (by omega)]
  ·rw [List.drop_eq_nil_of_le (by omega), wcmp, if_neg (by omega), if_neg (by omega)]
 ·rw [List.drop_length]
  by_cases h4 : q.length < p.length
  ·rw [List.drop_eq_getElem_cons h4, wcmp, if_neg (by omega), if_pos (by omega)]
  ·rw [List.drop_eq_nil_of_le (by omega), wcmp, if_neg (by omega), if_neg (by omega)]

set_option maxRecDepth 100000 in
set_option maxHeartbeats 4000000 in
theorem walkCompare_calls {l m : List REl} {A B : Option Addr} {c d : Nat} {w : World} (h : PathAt (Old w) w l A c) (h' : PathAt (Old w) w m B d) :
  Calls Tryz.prog 130 #[.slice A l.length c, .slice B m.length d] w (CmpPost (wcmp (pel l) (pel m)) w) := by
 obtain ⟨h1, h2, h3, xs, h4, h5⟩ := h
 obtain ⟨h1', h2', h3', ys, h4', h5'⟩ := h'
 have hl47 : l.length * 168 ≤ 140737488351232 := h1
 have hm47 : m.length * 168 ≤ 140737488351232 := h1'
 have H7 := hide (And.intro h4 (And.intro h5 (And.intro h4' h5')))
 obtain ⟨r, hr⟩ : ∃ r, wcmp (pel l) (pel m) = r := ⟨_, rfl⟩
 rw [hr]
 have Hr := hide (And.intro hr (And.intro (pel_length l) (pel_length m)))
 clear h1 h4 h5 h1' h4' h5' hr
 go_enter Tryz.func130, Tryz.ntmps130
 go_wp2_with fail
 go_loopw [5] (fun s W => WCInv w (pel l) (pel m) s W) (fun s _ => l.length - (intOf s).toNat)
 case atStart => exact ⟨0, rfl, Nat.zero_le _, Nat.zero_le _, by simp, Below.refl _ _⟩
 case round =>
  obtain ⟨k, rfl, hk1, hk2, heq, hb⟩ := hrel
  rw [Hr.out.2.1] at hk1
  rw [Hr.out.2.2] at hk2
  have hki0 : (0 : Int) ≤ (k : Int) := Int.natCast_nonneg _
  by_cases hboth : k < l.length ∧ k < m.length
  ·obtain ⟨hp, hq⟩ := hboth
   have hpi : (k : Int) < (l.length : Int) := by omega
   have hqi : (k : Int) < (m.length : Int) := by omega
   have hrd := wcmp_round heq (by rw [Hr.out.2.1]; exact hp) (by rw [Hr.out.2.2]; exact hq)
   have e1 : (pel l)[k]'(by rw [Hr.out.2.1]; exact hp) = (l[k]).elem := by simp [pel]
   have e2 : (pel m)[k]'(by rw [Hr.out.2.2]; exact hq) = (m[k]).elem := by simp [pel]
   rw [e1, e2, Hr.out.1, Hr.out.2.1, Hr.out.2.2] at hrd
   clear e1 e2
   have hx := H7.out.2.1.at_ hp
   have hy := H7.out.2.2.2.at_ hq
   generalize l[k] = x at *
   generalize m[k] = y at *
   generalize hcs : (xs.drop (k * 11)).take 11 = fcs at hx
   generalize hds : (ys.drop (k * 11)).take 11 = gcs at hy
   obtain ⟨a0, a1, a2, a3, a4, a5, a6, a7, a8, a9, aa, ab, ac, ad, ae, af, ag, ah, ai, rfl⟩ := hx.form
   obtain ⟨b0, b1, b2, b3, b4, b5, b6, b7, b8, b9, ba, bb, bc, bd, be, bf, bg, bh, bi, rfl⟩ := hy.form
   obtain ⟨rb, ro, rfl, hF, hc⟩ := rown_at H7.out.1 hp hcs
   obtain ⟨sb, so, rfl, hG, hd⟩ := rown_at H7.out.2.2.1 hq hds
   have ec := (bcell hb).1
   have m0 := (ec _ _ hF).trans (hc 0 _ rfl)
   have m1 := (ec _ _ hF).trans (hc 1 _ rfl)
   have m2 := (ec _ _ hF).trans (hc 2 _ rfl)
   have m3 := (ec _ _ hF).trans (hc 3 _ rfl)
   have m4 := (ec _ _ hF).trans (hc 4 _ rfl)
   have m5 := (ec _ _ hF).trans (hc 5 _ rfl)
   have m6 := (ec _ _ hF).trans (hc 6 _ rfl)
   have m7 := (ec _ _ hF).trans (hc 7 _ rfl)
   have m8 := (ec _ _ hF).trans (hc 8 _ rfl)
   have m9 := (ec _ _ hF).trans (hc 9 _ rfl)
   have m10 := (ec _ _ hF).trans (hc 10 _ rfl)
   have n0 := (ec _ _ hG).trans (hd 0 _ rfl)
   have n1 := (ec _ _ hG).trans (hd 1 _ rfl)
   have n2 := (ec _ _ hG).trans (hd 2 _ rfl)
   have n3 := (ec _ _ hG).trans (hd 3 _ rfl)
   have n4 := (ec _ _ hG).trans (hd 4 _ rfl)
   have n5 := (ec _ _ hG).trans (hd 5 _ rfl)
   have n6 := (ec _ _ hG).trans (hd 6 _ rfl)
   have n7 := (ec _ _ hG).trans (hd 7 _ rfl)
   have n8 := (ec _ _ hG).trans (hd 8 _ rfl)
   have n9 := (ec _ _ hG).trans (hd 9 _ rfl)
   have n10 := (ec _ _ hG).trans (hd 10 _ rfl)
   rw [Nat.add_zero] at m0 n0
   obtain ⟨v, hv⟩ : ∃ v, E.cmp x.elem y.elem = v := ⟨_, rfl⟩
   have HC := hide fun (W : World) (hb : Below w.heap.size w W) => specCompareElems_calls x y W _ _ (hx.at_ hb) (hy.at_ hb)
   rw [hv] at HC hrd
   have Hrd := hide hrd
   have Hb := hide hb
   clear hb hx hy hcs hds hc hd ec hF hG hrd heq hv hk1 hk2
   go_wp2_with fail
   go_still_tail 8, (by kernel_rfl)
   change wpList _ _ _ _ _ wr.drew
   go_wp2_with fail
   refine (HC.out wr.drew (below_drew Hb.out)).mono ?_
   rintro e w1 ⟨rfl, hb1⟩
   have H1 := hide (Hb.out.trans ((below_drew' hb1).mono Hb.out.size))
   clear hb1 m0 m1 m2 m3 m4 m5 m6 m7 m8 m9 m10 n0 n1 n2 n3 n4 n5 n6 n7 n8 n9 n10
   by_cases hv0 : v = 0
   ·have hs := Hrd.out.1 hv0
    have Hs := hide (Hr.out.1.trans hs)
    clear hs Hrd HC
    subst hv0
    go_wp2_with fail
    exact ⟨⟨k + 1, by go_num, by rw [Hr.out.2.1]; omega, by rw [Hr.out.2.2]; omega, Hs.out, H1.out⟩, by simp [intOf]; omega⟩
   ·have hvb : (v == 0) = false := beq_eq_false_iff_ne.2 hv0
    have hs := Hrd.out.2 hv0
    clear Hrd HC
    by_cases ea : k + 1 = l.length
    ·have ea1 : (k : Int) = (l.length : Int) - 1 := by omega
     by_cases eb : k + 1 = m.length
     ·have eb1 : (k : Int) = (m.length : Int) - 1 := by omega
      have hr2 := hs.2.2 ⟨fun _ => eb, fun _ => ea⟩
      have f1 : ((k : Int) == (l.length : Int) - 1) = true := beq_iff_eq.2 ea1
      have f2 : ((k : Int) == (m.length : Int) - 1) = true := beq_iff_eq.2 eb1
      subst hr2
      have Hf := hide (And.intro ea1 eb1)
      clear hs ea1 eb1 ea eb
      go_wp2
      go_ret
      exact ⟨rfl, H1.out⟩
     ·have eb1 : ¬ (k : Int) = (m.length : Int) - 1 := by omega
      have hr2 := hs.1 ea eb
      have f1 : ((k : Int) == (l.length : Int) - 1) = true := beq_iff_eq.2 ea1
      have f2 : ((k : Int) == (m.length : Int) - 1) = false := beq_eq_false_iff_ne.2 eb1
      subst hr2
      clear hs ea1 ea eb
      go_wp2
      go_ret
      exact ⟨rfl, H1.out⟩
    ·have ea1 : ¬ (k : Int) = (l.length : Int) - 1 := by omega
     by_cases eb : k + 1 = m.length
     ·have eb1 : (k : Int) = (m.length : Int) - 1 := by omega
      have hr2 := hs.2.1 ea eb
      have f1 : ((k : Int) == (l.length : Int) - 1) = false := beq_eq_false_iff_ne.2 ea1
      have f2 : ((k : Int) == (m.length : Int) - 1) = true := beq_iff_eq.2 eb1
      subst hr2
      clear hs eb1 ea eb
      go_wp2
      go_ret
      exact ⟨rfl, H1.out⟩
     ·have eb1 : ¬ (k : Int) = (m.length : Int) - 1 := by omega
      have hr2 := hs.2.2 ⟨fun h => absurd h ea, fun h => absurd h eb⟩
      have f1 : ((k : Int) == (l.length : Int) - 1) = false := beq_eq_false_iff_ne.2 ea1
      have f2 : ((k : Int) == (m.length : Int) - 1) = false := beq_eq_false_iff_ne.2 eb1
      subst hr2
      clear hs ea eb
      go_wp2
      go_ret
      exact ⟨rfl, H1.out⟩
  ·have hce := wcmp_end heq (by rw [Hr.out.2.1]; exact hk1) (by rw [Hr.out.2.2]; exact hk2) (by rw [Hr.out.2.1, Hr.out.2.2]; omega)
   rw [Hr.out.1, Hr.out.2.1, Hr.out.2.2] at hce
   have HI := hide fun (W : World) => (show Calls Tryz.prog 176 #[.int .i64 (l.length : Int), .int .i64 (m.length : Int)] W fun e w' => e = .returned (.int .i64 r) ∧ W = w' from by rw [hce]; exact specInts_calls _ _ W)
   have Hb := hide hb
   have hns : ¬ (k < l.length ∧ k < m.length) := hboth
   clear hb heq hce hboth
   by_cases hp : k < l.length
   ·have hpi : (k : Int) < (l.length : Int) := by omega
    have hqi : ¬ (k : Int) < (m.length : Int) := by omega
    clear hns
    go_wp2_with fail
    refine (HI.out _).mono ?_
    rintro e w2 ⟨rfl, rfl⟩
    go_wp2
    go_ret
    exact ⟨rfl, Hb.out⟩
   ·have hpi : ¬ (k : Int) < (l.length : Int) := by omega
    clear hns
    go_wp2_with fail
    refine (HI.out _).mono ?_
    rintro e w2 ⟨rfl, rfl⟩
    go_wp2
    go_ret
    exact ⟨rfl, Hb.out⟩

set_option maxRecDepth 100000 in
set_option maxHeartbeats 4000000 in
theorem place_calls {ls : List (List REl)} {l : List REl} {A B : Option Addr} {c d : Nat} {w : World} (h : PathsAt (Old w) w ls A c) (h' : PathAt (Old w) w l B d) (hok : ∀ p ∈ pelsP ls, POk p) (hp : POk (pel l)) (hs : SortC wcmp (pelsP ls)) :
  Calls Tryz.prog 77 #[.slice A ls.length c, .slice B l.length d] w fun e w' => e = .returned (.tuple #[.int .i64 (cntC wcmp (pel l) (pelsP ls) : Nat), .bool (hasC wcmp (pel l) (pelsP ls))]) ∧ Below w.heap.size w w' := by
 obtain ⟨h1, h2, h3, xs, h4, h5⟩ := h
 have hls : ls.length ≤ 8796093022208 := by unfold R47 at h1; omega
 have hpl : (pelsP ls).length = ls.length := List.length_map _
 have hcl := cntC_le (c := wcmp) (pel l) (pelsP ls)
 rw [hpl] at hcl
 have Hpl := hide hpl
 have Hlt := hide (cntC_lt wcmp_ord hp hok hs)
 have Hhas := hide (show hasC wcmp (pel l) (pelsP ls) = (match (pelsP ls)[cntC wcmp (pel l) (pelsP ls)]? with | some a => decide (wcmp a (pel l) = 0) | none => false) from by unfold hasC; cases (pelsP ls)[cntC wcmp (pel l) (pelsP ls)]? <;> rfl)
 have Hat := hide fun (i : Nat) (hi : i < ls.length) => (show (pelsP ls)[i]? = some (pel ls[i]) from by simp [pelsP, hi])
 generalize hasC wcmp (pel l) (pelsP ls) = has at *
 generalize hcc : cntC wcmp (pel l) (pelsP ls) = cnt at *
 have H7 := hide (And.intro h4 (And.intro h5 h'))
 clear h1 h4 h5 h' hok hp hs hpl hcc h2 h3
 generalize pelsP ls = ps at *
 go_enter Tryz.func77, Tryz.ntmps77
 go_wp2_with fail
 go_loopw [6, 7] (fun lo hi W => ∃ a b : Nat, a ≤ cnt ∧ cnt ≤ b ∧ b ≤ ls.length ∧ lo = .int .i64 (a : Int) ∧ hi = .int .i64 (b : Int) ∧ Below w.heap.size w W) (fun lo hi _ => (intOf hi).toNat - (intOf lo).toNat)
 case atStart => exact ⟨0, ls.length, Nat.zero_le _, hcl, Nat.le_refl _, rfl, rfl, Below.refl _ _⟩
 case round =>
  obtain ⟨a, b, ha, hb2, hbl, rfl, rfl, hb⟩ := hrel
  by_cases hab : a < b
  ·obtain ⟨mm, hm, hm1, hm2⟩ : ∃ m : Nat, (a : Int) + ((b : Int) - (a : Int)) / 2 = (m : Int) ∧ a ≤ m ∧ m < b := ⟨a + (b - a) / 2, by omega, by omega, by omega⟩
   have hml : mm < ls.length := by omega
   have hx := H7.out.2.1.at_ hml
   have hiff := Hlt.out mm _ (Hat.out mm hml)
   generalize ls[mm] = y at *
   obtain ⟨C, cd, ecs, hy⟩ := hx
   obtain ⟨rb, ro, rfl, hF, hc⟩ := rown_at H7.out.1 hml ecs
   have q0 := ((bcell hb).1 _ _ hF).trans (hc 0 _ rfl)
   rw [Nat.mul_one, Nat.add_zero] at q0
   have hrb : rb < w.heap.size := hF
   obtain ⟨v, hv⟩ : ∃ v, wcmp (pel y) (pel l) = v := ⟨_, rfl⟩
   have HC := hide (walkCompare_calls (hy.at_ hb) (H7.out.2.2.at_ hb))
   rw [hv] at HC hiff
   have hm0 : (0 : Int) ≤ (mm : Int) := Int.natCast_nonneg _
   have hmi : (mm : Int) < (ls.length : Int) := by omega
   have hab1 : (a : Int) < (b : Int) := by omega
   have Hb := hide (And.intro hb hiff)
   clear hb hy ecs hc hF hiff hv
   go_wp2_with fail
   try rw [hm]
   refine HC.out.mono ?_
   rintro e w1 ⟨rfl, hb1⟩
   have H1 := hide (Hb.out.1.trans (hb1.mono Hb.out.1.size))
   clear hb1 q0 HC
   by_cases hv0 : v < 0
   ·have hge := Hb.out.2.1 hv0
    go_wp2_with fail
    exact ⟨⟨mm + 1, b, by omega, hb2, hbl, by go_num, rfl, H1.out⟩, by simp [intOf]; omega⟩
   ·have hge : cnt ≤ mm := by
     exact Nat.le_of_not_lt fun h => hv0 (Hb.out.2.2 h)
    go_wp2_with fail
    exact ⟨⟨a, mm, ha, hge, by omega, rfl, rfl, H1.out⟩, by simp [intOf]; omega⟩
  ·have e1 : a = cnt := by omega
   subst e1
   have hai0 : (0 : Int) ≤ (a : Int) := Int.natCast_nonneg _
   have hab1 : ¬ (a : Int) < (b : Int) := by omega
   by_cases hal : a < ls.length
   ·have hali : (a : Int) < (ls.length : Int) := by omega
    have hx := H7.out.2.1.at_ hal
    have hh := Hhas.out
    rw [Hat.out a hal] at hh
    simp only at hh
    generalize ls[a] = y at *
    obtain ⟨C, cd, ecs, hy⟩ := hx
    obtain ⟨rb, ro, rfl, hF, hc⟩ := rown_at H7.out.1 hal ecs
    have q0 := ((bcell hb).1 _ _ hF).trans (hc 0 _ rfl)
    rw [Nat.mul_one, Nat.add_zero] at q0
    have hrb : rb < w.heap.size := hF
    obtain ⟨v, hv⟩ : ∃ v, wcmp (pel y) (pel l) = v := ⟨_, rfl⟩
    have HC := hide (walkCompare_calls (hy.at_ hb) (H7.out.2.2.at_ hb))
    rw [hv] at HC hh
    have Hb := hide hb
    have Hh := hide hh
    clear hb hy ecs hc hF hh hv
    go_wp2_with fail
    refine HC.out.mono ?_
    rintro e w1 ⟨rfl, hb1⟩
    have H1 := hide (Hb.out.trans (hb1.mono Hb.out.size))
    clear hb1 q0 HC
    go_wp2
    go_ret2
    exact ⟨by rw [Hh.out]; rfl, H1.out⟩
   ·have hali : ¬ (a : Int) < (ls.length : Int) := by omega
    have hh : has = false := by
     rw [Hhas.out]
     have : ps[a]? = none := by
      cases hpa : ps[a]? with
      | none => rfl
      | some y => have := (List.getElem?_eq_some_iff.1 hpa).1; rw [Hpl.out] at this; omega
     rw [this]
    subst hh
    have Hb := hide hb
    clear hb
    go_wp2
    go_ret2
    exact ⟨rfl, Hb.out⟩

end Go.Proofs.YtbicoknghdgahaaGreat
