/-
  spec.CompareValues, spec.EqualValues: what they return, of every two values.
-/
import Derived.Test.YtajeghkjppkhcaaGreatSpecPE
set_option linter.unusedVariables false
set_option linter.unusedSimpArgs false
namespace Go.Proofs.YtajeghkjppkhcaaGreat
open Go.RowKit


set_option maxRecDepth 100000 in
set_option maxHeartbeats 1000000 in
theorem specCompare_calls (r1 r2 : RV) (w : World) (cs1 cs2 : List Value) (h1 : RVAt (Old w) w r1 cs1) (h2 : RVAt (Old w) w r2 cs2) :
    Calls Tryz.prog 105 #[.agg cs1.toArray, .agg cs2.toArray] w (CmpPost (T.cmp r1.tree r2.tree) w) := by
  have H1 := hide h1
  have H2 := hide h2
  obtain ⟨c, hcv⟩ : ∃ c, T.cmp r1.tree r2.tree = c := ⟨_, rfl⟩
  rw [hcv]
  have Hc := hide hcv
  clear hcv
  obtain ⟨a0, a1, a2, a3, a4, a5, rfl⟩ := h1.six
  obtain ⟨b0, b1, b2, b3, b4, b5, rfl⟩ := h2.six
  clear h1 h2
  go_enter Tryz.func105, Tryz.ntmps105
  go_wp2_with fail
  generalize hW : World.alloc _ _ = W
  have hb : Below w.heap.size w W := by rw [← hW]; exact below_two _ _ _
  have hsz : w.heap.size + 1 < W.heap.size := by rw [← hW]; simp
  have hx : Bx2 w.heap.size (w.heap.size + 1) a0 a1 a2 a3 a4 a5 b0 b1 b2 b3 b4 b5 W := by rw [← hW]; exact Bx2.made _ _ _ _ _ _ _ _ _ _ _ _ _ _ _
  clear hW
  have hS0 : Bx2 w.heap.size (w.heap.size + 1) a0 a1 a2 a3 a4 a5 b0 b1 b2 b3 b4 b5 W.drew := hx.drew
  generalize hS : Bx2 w.heap.size (w.heap.size + 1) a0 a1 a2 a3 a4 a5 b0 b1 b2 b3 b4 b5 = S at hS0
  have Hk := hide (And.intro hb hx)
  clear hx hb
  refine wp_region_head 4 S (by rfl) (by kernel_rfl) ?_
  refine HT.take 0 (v := ?_) rfl (by kernel_rfl) (fun _ _ _ h => h) (Or.inl ⟨by rfl, ?_⟩) (by assumption) ?_
  rotate_left
  · intro W hSw; rw [← hS] at hSw; obtain ⟨⟨s0, s1, s2, s3, s4, s5⟩, ⟨t0, t1, t2, t3, t4, t5⟩⟩ := hSw; go_simp; with_reducible rfl
  simp only [Act.put, List.setIfInBounds_toArray, List.set_cons_zero, List.set_cons_succ]
  refine HT.take 2 (v := ?_) rfl (by kernel_rfl) (fun _ _ _ h => h) (Or.inl ⟨by rfl, ?_⟩) (by assumption) ?_
  rotate_left
  · intro W hSw; rw [← hS] at hSw; obtain ⟨⟨s0, s1, s2, s3, s4, s5⟩, ⟨t0, t1, t2, t3, t4, t5⟩⟩ := hSw; go_simp; with_reducible rfl
  simp only [Act.put, List.setIfInBounds_toArray, List.set_cons_zero, List.set_cons_succ]
  refine HT.one 1 rfl (by kernel_rfl) (by rfl) (fun K hK => ?_)
  go_simp
  refine (clean_calls r1 W.drew _ (H1.out.at_ (below_drew Hk.out.1))).mono ?_
  rintro e w1 ⟨v1, rfl, hv1, hb1⟩
  obtain ⟨x0, x1, x2, x3, x4, x5, rfl⟩ := hv1.six
  have hbW : Below W.heap.size W w1 := below_drew' hb1
  go_simp
  refine hK.out _ _ (by rw [← hS]; exact Hk.out.2.below hbW (by omega) (by omega)) ?_
  clear hK
  refine HT.one 3 rfl (by kernel_rfl) (by rfl) (fun K hK => ?_)
  go_simp
  refine (clean_calls r2 w1 _ (H2.out.at_ (Hk.out.1.trans (hbW.mono Hk.out.1.size)))).mono ?_
  rintro e w2 ⟨v2, rfl, hv2, hb2⟩
  obtain ⟨y0, y1, y2, y3, y4, y5, rfl⟩ := hv2.six
  have hbW2 : Below W.heap.size W w2 := hbW.trans (hb2.mono hbW.size)
  go_simp
  refine hK.out _ _ (by rw [← hS]; exact Hk.out.2.below hbW2 (by omega) (by omega)) ?_
  refine HT.done (by kernel_rfl) ?_
  simp only [List.drop_succ_cons, List.drop_zero]
  have hfin := specCmp_all r1.tree r2.tree w2 _ _ (RVAt.at_ (hv1.mono fun b hb => (hb.resolve_left id).2) hb2) (hv2.mono fun b hb => (hb.resolve_left id).2)
  rw [Hc.out] at hfin
  have Hfin := hide hfin
  have Hb2 := hide (Hk.out.1.trans (hbW2.mono Hk.out.1.size))
  clear hK hS0 hS hv1 hv2 hb1 hb2 hbW hbW2 hfin
  go_wp2_with fail
  refine Hfin.out.mono ?_
  rintro e w3 ⟨rfl, hb3⟩
  have Hb3 := hide (Hb2.out.trans (hb3.mono Hb2.out.size))
  clear hb3
  go_wp2
  go_ret
  exact ⟨rfl, Hb3.out⟩

set_option maxRecDepth 100000 in
set_option maxHeartbeats 1000000 in
theorem specEqual_calls (r1 r2 : RV) (w : World) (cs1 cs2 : List Value) (h1 : RVAt (Old w) w r1 cs1) (h2 : RVAt (Old w) w r2 cs2) :
    Calls Tryz.prog 116 #[.agg cs1.toArray, .agg cs2.toArray] w (EqPost (T.eqv r1.tree r2.tree) w) := by
  have H1 := hide h1
  have H2 := hide h2
  obtain ⟨c, hcv⟩ : ∃ c, T.eqv r1.tree r2.tree = c := ⟨_, rfl⟩
  rw [hcv]
  have Hc := hide hcv
  clear hcv
  obtain ⟨a0, a1, a2, a3, a4, a5, rfl⟩ := h1.six
  obtain ⟨b0, b1, b2, b3, b4, b5, rfl⟩ := h2.six
  clear h1 h2
  go_enter Tryz.func116, Tryz.ntmps116
  go_wp2_with fail
  generalize hW : World.alloc _ _ = W
  have hb : Below w.heap.size w W := by rw [← hW]; exact below_two _ _ _
  have hsz : w.heap.size + 1 < W.heap.size := by rw [← hW]; simp
  have hx : Bx2 w.heap.size (w.heap.size + 1) a0 a1 a2 a3 a4 a5 b0 b1 b2 b3 b4 b5 W := by rw [← hW]; exact Bx2.made _ _ _ _ _ _ _ _ _ _ _ _ _ _ _
  clear hW
  have hS0 : Bx2 w.heap.size (w.heap.size + 1) a0 a1 a2 a3 a4 a5 b0 b1 b2 b3 b4 b5 W.drew := hx.drew
  generalize hS : Bx2 w.heap.size (w.heap.size + 1) a0 a1 a2 a3 a4 a5 b0 b1 b2 b3 b4 b5 = S at hS0
  have Hk := hide (And.intro hb hx)
  clear hx hb
  refine wp_region_head 4 S (by rfl) (by kernel_rfl) ?_
  refine HT.take 0 (v := ?_) rfl (by kernel_rfl) (fun _ _ _ h => h) (Or.inl ⟨by rfl, ?_⟩) (by assumption) ?_
  rotate_left
  · intro W hSw; rw [← hS] at hSw; obtain ⟨⟨s0, s1, s2, s3, s4, s5⟩, ⟨t0, t1, t2, t3, t4, t5⟩⟩ := hSw; go_simp; with_reducible rfl
  simp only [Act.put, List.setIfInBounds_toArray, List.set_cons_zero, List.set_cons_succ]
  refine HT.take 2 (v := ?_) rfl (by kernel_rfl) (fun _ _ _ h => h) (Or.inl ⟨by rfl, ?_⟩) (by assumption) ?_
  rotate_left
  · intro W hSw; rw [← hS] at hSw; obtain ⟨⟨s0, s1, s2, s3, s4, s5⟩, ⟨t0, t1, t2, t3, t4, t5⟩⟩ := hSw; go_simp; with_reducible rfl
  simp only [Act.put, List.setIfInBounds_toArray, List.set_cons_zero, List.set_cons_succ]
  refine HT.one 1 rfl (by kernel_rfl) (by rfl) (fun K hK => ?_)
  go_simp
  refine (clean_calls r1 W.drew _ (H1.out.at_ (below_drew Hk.out.1))).mono ?_
  rintro e w1 ⟨v1, rfl, hv1, hb1⟩
  obtain ⟨x0, x1, x2, x3, x4, x5, rfl⟩ := hv1.six
  have hbW : Below W.heap.size W w1 := below_drew' hb1
  go_simp
  refine hK.out _ _ (by rw [← hS]; exact Hk.out.2.below hbW (by omega) (by omega)) ?_
  clear hK
  refine HT.one 3 rfl (by kernel_rfl) (by rfl) (fun K hK => ?_)
  go_simp
  refine (clean_calls r2 w1 _ (H2.out.at_ (Hk.out.1.trans (hbW.mono Hk.out.1.size)))).mono ?_
  rintro e w2 ⟨v2, rfl, hv2, hb2⟩
  obtain ⟨y0, y1, y2, y3, y4, y5, rfl⟩ := hv2.six
  have hbW2 : Below W.heap.size W w2 := hbW.trans (hb2.mono hbW.size)
  go_simp
  refine hK.out _ _ (by rw [← hS]; exact Hk.out.2.below hbW2 (by omega) (by omega)) ?_
  refine HT.done (by kernel_rfl) ?_
  simp only [List.drop_succ_cons, List.drop_zero]
  have hfin := specEq_all r1.tree r2.tree w2 _ _ (RVAt.at_ (hv1.mono fun b hb => (hb.resolve_left id).2) hb2) (hv2.mono fun b hb => (hb.resolve_left id).2)
  rw [Hc.out] at hfin
  have Hfin := hide hfin
  have Hb2 := hide (Hk.out.1.trans (hbW2.mono Hk.out.1.size))
  clear hK hS0 hS hv1 hv2 hb1 hb2 hbW hbW2 hfin
  go_wp2_with fail
  refine Hfin.out.mono ?_
  rintro e w3 ⟨rfl, hb3⟩
  have Hb3 := hide (Hb2.out.trans (hb3.mono Hb2.out.size))
  clear hb3
  go_wp2
  go_ret
  exact ⟨rfl, Hb3.out⟩

end Go.Proofs.YtajeghkjppkhcaaGreat
