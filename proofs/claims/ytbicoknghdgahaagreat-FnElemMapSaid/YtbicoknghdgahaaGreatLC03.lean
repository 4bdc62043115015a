/- Parts: Same, MapOps. -/
import Derived.Test.YtbicoknghdgahaaGreatLC01
import Derived.Test.YtbicoknghdgahaaGreatLC02
set_option linter.unusedVariables false
set_option linter.unusedSimpArgs false
namespace Go.Proofs.YtbicoknghdgahaaGreat
open Go.RowKit

theorem run_f64bits (b : Nat) (w : World) : (callFunc 119 #[.float .f64 b]).run Tryz.prog w = .ok (.value (.int .u64 b)) w := by kernel_rfl
attribute [local go_sem] run_store_float run_f64bits

def SmI (w : World) (a0 a1 a2 a3 a4 a5 b0 b1 b2 b3 b4 b5 : Value) (n : Nat) (s : Value) (W : World) : Prop := ∃ k : Nat, s = .int .i64 (k : Int) ∧ k ≤ n ∧ B2 w 27 a0 a1 a2 a3 a4 a5 b0 b1 b2 b3 b4 b5 W

structure SmS (w : World) (a0 a1 a2 a3 a4 a5 b0 b1 b2 b3 b4 b5 : Value) (g1 o1 g2 o2 k : Nat) (x0 x1 x2 x3 x4 x5 y0 y1 y2 y3 y4 y5 : Value) (W : World) : Prop where
 st : B2 w 27 a0 a1 a2 a3 a4 a5 b0 b1 b2 b3 b4 b5 W
 x0 : W.cell? ⟨g1, o1 + k * 6, none⟩ = some x0
 x1 : W.cell? ⟨g1, o1 + k * 6 + 1, none⟩ = some x1
 x2 : W.cell? ⟨g1, o1 + k * 6 + 2, none⟩ = some x2
 x3 : W.cell? ⟨g1, o1 + k * 6 + 3, none⟩ = some x3
 x4 : W.cell? ⟨g1, o1 + k * 6 + 4, none⟩ = some x4
 x5 : W.cell? ⟨g1, o1 + k * 6 + 5, none⟩ = some x5
 y0 : W.cell? ⟨g2, o2 + k * 6, none⟩ = some y0
 y1 : W.cell? ⟨g2, o2 + k * 6 + 1, none⟩ = some y1
 y2 : W.cell? ⟨g2, o2 + k * 6 + 2, none⟩ = some y2
 y3 : W.cell? ⟨g2, o2 + k * 6 + 3, none⟩ = some y3
 y4 : W.cell? ⟨g2, o2 + k * 6 + 4, none⟩ = some y4
 y5 : W.cell? ⟨g2, o2 + k * 6 + 5, none⟩ = some y5
theorem SmS.call {w : World} {a0 a1 a2 a3 a4 a5 b0 b1 b2 b3 b4 b5 : Value} {g1 o1 g2 o2 k : Nat} {x0 x1 x2 x3 x4 x5 y0 y1 y2 y3 y4 y5 : Value} {W W' : World} (h : SmS w a0 a1 a2 a3 a4 a5 b0 b1 b2 b3 b4 b5 g1 o1 g2 o2 k x0 x1 x2 x3 x4 x5 y0 y1 y2 y3 y4 y5 W) (hb : Below W.heap.size W W') (h1 : g1 < W.heap.size) (h2 : g2 < W.heap.size) : SmS w a0 a1 a2 a3 a4 a5 b0 b1 b2 b3 b4 b5 g1 o1 g2 o2 k x0 x1 x2 x3 x4 x5 y0 y1 y2 y3 y4 y5 W' := by
 have e := (bcell hb).1
 exact ⟨h.st.call hb, (e _ _ h1).trans h.x0, (e _ _ h1).trans h.x1, (e _ _ h1).trans h.x2, (e _ _ h1).trans h.x3, (e _ _ h1).trans h.x4, (e _ _ h1).trans h.x5, (e _ _ h2).trans h.y0, (e _ _ h2).trans h.y1, (e _ _ h2).trans h.y2, (e _ _ h2).trans h.y3, (e _ _ h2).trans h.y4, (e _ _ h2).trans h.y5⟩

def SameOK (r : RV) : Prop := ∀ (w : World) (cs1 cs2 : List Value), RVAt (Old w) w r cs1 → RVAt (Old w) w r cs2 → Calls Tryz.prog 66 #[.agg cs1.toArray, .agg cs2.toArray] w (EqPost true w)

set_option maxRecDepth 100000 in
set_option maxHeartbeats 4000000 in
theorem identical_step (kind n : Int) (f : Nat) (s : ByteArray) (keys : List ByteArray) (l : List RV) (ih : ∀ r ∈ l, SameOK r) : SameOK (.mk kind n f s keys l) := by
 intro w cs1 cs2 h1 h2
 cases h1 with
 | @mk _ _ _ _ _ _ KA1 LA1 kc1 lc1 xs1 i1 i2 i3 i4 i5 i6 i7 i8 i9 i10 i11 hK1 hL1 hx1 =>
 cases h2 with
 | @mk _ _ _ _ _ _ KA2 LA2 kc2 lc2 xs2 j1 j2 j3 j4 j5 j6 j7 j8 j9 j10 j11 hK2 hL2 hx2 =>
 have hkl : keys.length ≤ 8796093022208 := by unfold R47 at i6; omega
 have hll : l.length ≤ 8796093022208 := by unfold R47 at i7; omega
 have HK := hide (And.intro hK1 hK2)
 have HL := hide (And.intro hL1 hL2)
 have HX := hide (And.intro hx1 hx2)
 have Hih := hide ih
 clear i1 i2 i3 i4 i5 i6 i7 i8 i9 i10 i11 j1 j2 j3 j4 j5 j6 j7 j8 j9 j10 j11 hK1 hK2 hL1 hL2 hx1 hx2 ih
 go_enter Tryz.func66, Tryz.ntmps66
 go_wp2_with fail
 have st := B2.made w 27 (.int .i64 kind) (.int .i64 n) (.float .f64 f) (.string s) (.slice KA1 keys.length kc1) (.slice LA1 l.length lc1) (.int .i64 kind) (.int .i64 n) (.float .f64 f) (.string s) (.slice KA2 keys.length kc2) (.slice LA2 l.length lc2)
 generalize World.alloc _ _ = W at st ⊢
 replace st := st.call (below_drew (Below.refl _ _))
 have hS0 := st
 obtain ⟨S, hS⟩ : ∃ S, B2 w 27 (.int .i64 kind) (.int .i64 n) (.float .f64 f) (.string s) (.slice KA1 keys.length kc1) (.slice LA1 l.length lc1) (.int .i64 kind) (.int .i64 n) (.float .f64 f) (.string s) (.slice KA2 keys.length kc2) (.slice LA2 l.length lc2) = S := ⟨_, rfl⟩
 rw [hS] at hS0
 refine wp_region_head 26 S (by rfl) (by kernel_rfl) ?_
 have hX := hide (fun (W : World) (hSw : S W) => have hSw := Eq.mpr (congrFun hS W) hSw; And.intro (Bx.of hSw.a) (Bx.of hSw.b))
 iterate 22
  refine HT.nx (v := ?_) rfl (by kernel_rfl) (fun _ _ _ h => h) (Or.inl ⟨by rfl, ?_⟩) ‹_› ?_
  rotate_left
  ·intro W hSw; obtain ⟨⟨s0, s1, s2, s3, s4, s5⟩, ⟨t0, t1, t2, t3, t4, t5⟩⟩ := hX.out W hSw; go_simp; with_reducible rfl
  simp only [Act.put, zzA, zzZ, zzS]
 refine HT.take 23 (v := ?_) rfl (by kernel_rfl) (fun _ _ _ h => h) (Or.inl ⟨by rfl, ?_⟩) ‹_› ?_
 rotate_left
 ·intro W hSw; obtain ⟨⟨s0, s1, s2, s3, s4, s5⟩, ⟨t0, t1, t2, t3, t4, t5⟩⟩ := hX.out W hSw; go_simp; with_reducible rfl
 simp only [Act.put, zzA, zzZ, zzS]
 refine HT.take 24 (v := ?_) rfl (by kernel_rfl) (fun _ _ _ h => h) (Or.inl ⟨by rfl, ?_⟩) ‹_› ?_
 rotate_left
 ·intro W hSw; obtain ⟨⟨s0, s1, s2, s3, s4, s5⟩, ⟨t0, t1, t2, t3, t4, t5⟩⟩ := hX.out W hSw; go_simp; with_reducible rfl
 simp only [Act.put, zzA, zzZ, zzS]
 clear hX
 refine HT.one 22 rfl (by kernel_rfl) (by rfl) (fun K hK => ?_)
 go_simp
 refine hK.out _ _ hS0 ?_
 clear hK
 refine HT.one 25 rfl (by kernel_rfl) (by rfl) (fun K hK => ?_)
 go_simp
 refine hK.out _ _ hS0 ?_
 clear hK
 refine HT.done (by kernel_rfl) ?_
 simp only [List.drop_succ_cons, List.drop_zero]
 clear hS0 hS
 obtain ⟨p0, p1, p2, p3, p4, p5⟩ := Bx.of st.a
 obtain ⟨q0, q1, q2, q3, q4, q5⟩ := Bx.of st.b
 have St := hide st
 clear st
 go_wp2_with fail
 clear p0 p1 p2 p3 p4 p5 q0 q1 q2 q3 q4 q5
 go_loopw [54] (fun c wr => SmI w (.int .i64 kind) (.int .i64 n) (.float .f64 f) (.string s) (.slice KA1 keys.length kc1) (.slice LA1 l.length lc1) (.int .i64 kind) (.int .i64 n) (.float .f64 f) (.string s) (.slice KA2 keys.length kc2) (.slice LA2 l.length lc2) keys.length c wr) (fun c _ => keys.length - (intOf c).toNat)
 case atStart => exact ⟨0, rfl, Nat.zero_le _, St.out⟩
 case round =>
  obtain ⟨k, rfl, hk, st⟩ := hrel
  by_cases hlt : k < keys.length
  ·obtain ⟨g1, o1, rfl, hF1, c1⟩ := row1_at (u := Value.string keys[k]) HK.out.1 hlt (by simp [hlt])
   obtain ⟨g2, o2, rfl, hF2, c2⟩ := row1_at (u := Value.string keys[k]) HK.out.2 hlt (by simp [hlt])
   rw [← (bcell st.below).1 _ _ hF1] at c1
   rw [← (bcell st.below).1 _ _ hF2] at c2
   have p4 := st.a.cell 4
   have q4 := st.b.cell 4
   simp at p4 q4
   have hki0 : (0 : Int) ≤ (k : Int) := Int.natCast_nonneg _
   have hki1 : (k : Int) < (keys.length : Int) := by omega
   generalize keys[k] = key at c1 c2
   have St := hide st
   clear st hF1 hF2 hk
   go_wp2_with fail
   go_quiet (fail)
   go_wp2_with fail
   exact ⟨⟨k + 1, rfl, hlt, St.out.call (below_drewN (Below.refl _ _) _)⟩, by simp [intOf]; omega⟩
  ·have hke : k = keys.length := by omega
   subst hke
   obtain ⟨wo, rfl⟩ : ∃ wo : World, wo = wr := ⟨_, rfl⟩
   have p5 := st.a.cell 5
   simp at p5
   have St := hide st
   clear st hk
   go_wp2_with fail
   clear p5
   go_loopw [72] (fun c wr => SmI w (.int .i64 kind) (.int .i64 n) (.float .f64 f) (.string s) (.slice KA1 keys.length kc1) (.slice LA1 l.length lc1) (.int .i64 kind) (.int .i64 n) (.float .f64 f) (.string s) (.slice KA2 keys.length kc2) (.slice LA2 l.length lc2) l.length c wr) (fun c _ => l.length - (intOf c).toNat)
   case atStart => exact ⟨0, rfl, Nat.zero_le _, St.out⟩
   case round =>
    obtain ⟨k, rfl, hk, st⟩ := hrel
    by_cases hlt : k < l.length
    ·have hgk : l[k]? = some l[k] := List.getElem?_eq_getElem hlt
     have hv1 := HX.out.1 k _ hgk
     have hv2 := HX.out.2 k _ hgk
     have hik := Hih.out l[k] (List.getElem_mem hlt)
     generalize l[k] = r at hgk hv1 hv2 hik
     have hq := fun (W : World) (hb : Below w.heap.size w W) => hik W _ _ (hv1.at_ hb) (hv2.at_ hb)
     generalize hxs1 : (xs1.drop (k * 6)).take 6 = ys1 at hv1 hq
     generalize hxs2 : (xs2.drop (k * 6)).take 6 = ys2 at hv2 hq
     obtain ⟨x0, x1, x2, x3, xA, xn, xc, yA, yn, yc, rfl⟩ := hv1.form
     obtain ⟨u0, u1, u2, u3, uA, un, uc, vA, vn, vc, rfl⟩ := hv2.form
     obtain ⟨g1, o1, rfl, hF1, k0, k1, k2, k3, k4, k5⟩ := row6_at HL.out.1 hlt hxs1
     obtain ⟨g2, o2, rfl, hF2, l0, l1, l2, l3, l4, l5⟩ := row6_at HL.out.2 hlt hxs2
     have hs1 : g1 < w.heap.size := hF1
     have hs2 : g2 < w.heap.size := hF2
     have hsw := st.below.size
     have eb := (bcell st.below).1
     have hki0 : (0 : Int) ≤ (k : Int) := Int.natCast_nonneg _
     have hki1 : (k : Int) < (l.length : Int) := by omega
     have hzs : SmS w (.int .i64 kind) (.int .i64 n) (.float .f64 f) (.string s) (.slice KA1 keys.length kc1) (.slice (some ⟨g1, o1, none⟩) l.length lc1) (.int .i64 kind) (.int .i64 n) (.float .f64 f) (.string s) (.slice KA2 keys.length kc2) (.slice (some ⟨g2, o2, none⟩) l.length lc2) g1 o1 g2 o2 k (.int .i64 x0) (.int .i64 x1) (.float .f64 x2) (.string x3) (.slice xA xn xc) (.slice yA yn yc) (.int .i64 u0) (.int .i64 u1) (.float .f64 u2) (.string u3) (.slice uA un uc) (.slice vA vn vc) wr :=
      ⟨st, (eb _ _ hs1).trans k0, (eb _ _ hs1).trans k1, (eb _ _ hs1).trans k2, (eb _ _ hs1).trans k3, (eb _ _ hs1).trans k4, (eb _ _ hs1).trans k5, (eb _ _ hs2).trans l0, (eb _ _ hs2).trans l1, (eb _ _ hs2).trans l2, (eb _ _ hs2).trans l3, (eb _ _ hs2).trans l4, (eb _ _ hs2).trans l5⟩
     have Hq := hide hq
     have St := hide st
     have Hzs := hide hzs
     clear hgk hv1 hv2 hik hq hxs1 hxs2 k0 k1 k2 k3 k4 k5 l0 l1 l2 l3 l4 l5 hF1 hF2 eb st hzs hk
     go_wp2_with fail
     have hS0 := Hzs.out.call (below_drew (Below.refl _ _)) (by omega) (by omega)
     obtain ⟨S, hS⟩ : ∃ S, SmS w (.int .i64 kind) (.int .i64 n) (.float .f64 f) (.string s) (.slice KA1 keys.length kc1) (.slice (some ⟨g1, o1, none⟩) l.length lc1) (.int .i64 kind) (.int .i64 n) (.float .f64 f) (.string s) (.slice KA2 keys.length kc2) (.slice (some ⟨g2, o2, none⟩) l.length lc2) g1 o1 g2 o2 k (.int .i64 x0) (.int .i64 x1) (.float .f64 x2) (.string x3) (.slice xA xn xc) (.slice yA yn yc) (.int .i64 u0) (.int .i64 u1) (.float .f64 u2) (.string u3) (.slice uA un uc) (.slice vA vn vc) = S := ⟨_, rfl⟩
     rw [hS] at hS0
     refine wp_region_head 11 S (by rfl) (by kernel_rfl) ?_
     iterate 10
      refine HT.nx (v := ?_) rfl (by kernel_rfl) (fun _ _ _ h => h) (Or.inl ⟨by rfl, ?_⟩) ‹_› ?_
      rotate_left
      ·intro W hSw; rw [← hS] at hSw; have p5 := hSw.st.a.cell 5; have q5 := hSw.st.b.cell 5; simp at p5 q5; obtain ⟨_, s0, s1, s2, s3, s4, s5, r0, r1, r2, r3, r4, r5⟩ := hSw; go_simp; with_reducible rfl
      simp only [Act.put, zzA, zzZ, zzS]
     refine HT.one 10 rfl (by kernel_rfl) (by rfl) (fun K hK => ?_)
     go_simp
     refine (Hq.out wr.drew (below_drew St.out.below)).mono ?_
     rintro e w1 ⟨rfl, hb1⟩
     have hb2 : Below wr.heap.size wr w1 := below_drew' hb1
     have St2 := hide (St.out.call hb2)
     go_simp
     refine hK.out _ _ (by rw [← hS]; exact Hzs.out.call hb2 (by omega) (by omega)) ?_
     clear hK
     refine HT.done (by kernel_rfl) ?_
     simp only [List.drop_succ_cons, List.drop_zero]
     clear hS0 hS hb1 hb2 Hzs St
     go_wp2_with fail
     exact ⟨⟨k + 1, rfl, hlt, St2.out⟩, by simp [intOf]; omega⟩
    ·have hke : k = l.length := by omega
     subst hke
     have St := hide st
     clear st hk
     go_wp2
     go_ret
     exact ⟨rfl, St.out.below⟩

theorem identical_calls (r : RV) : SameOK r := by
 have h : ∀ (m : Nat) (r : RV), r.rank < m → SameOK r := by
  intro m
  induction m with
  | zero => intro r h; exact absurd h (by omega)
  | succ m ih =>
   intro r h
   obtain ⟨kind, n, f, s, keys, l⟩ := r
   exact identical_step kind n f s keys l fun r hr => ih r (by have := RV.rank_lt (kind := kind) (n := n) (f := f) (s := s) (keys := keys) hr; omega)
 exact h _ r (Nat.lt_succ_self _)

set_option maxRecDepth 100000 in
set_option maxHeartbeats 1000000 in
theorem sameValue_calls (r1 r2 : RV) (ht : r1.tree = r2.tree) (w : World) (cs1 cs2 : List Value) (h1 : RVAt (Old w) w r1 cs1) (h2 : RVAt (Old w) w r2 cs2) :
  Calls Tryz.prog 18 #[.agg cs1.toArray, .agg cs2.toArray] w (EqPost true w) := by
 have H1 := hide fun (W : World) (hb : Below w.heap.size w W) => clean_calls r1 W cs1 (h1.at_ hb)
 have H2 := fun (W : World) (hb : Below w.heap.size w W) => clean_calls r2 W cs2 (h2.at_ hb)
 rw [← ht] at H2
 have H2 := hide H2
 generalize r1.tree.toRV = rr at *
 obtain ⟨x0, x1, x2, x3, xA, xn, xc, yA, yn, yc, rfl⟩ := h1.form
 obtain ⟨u0, u1, u2, u3, uA, un, uc, vA, vn, vc, rfl⟩ := h2.form
 clear h1 h2 ht
 go_enter Tryz.func18, Tryz.ntmps18
 go_wp2_with fail
 have st := B2.made w 27 (.int .i64 x0) (.int .i64 x1) (.float .f64 x2) (.string x3) (.slice xA xn xc) (.slice yA yn yc) (.int .i64 u0) (.int .i64 u1) (.float .f64 u2) (.string u3) (.slice uA un uc) (.slice vA vn vc)
 generalize World.alloc _ _ = W at st ⊢
 replace st := st.call (below_drew (Below.refl _ _))
 have hS0 := st
 obtain ⟨S, hS⟩ : ∃ S, B2 w 27 (.int .i64 x0) (.int .i64 x1) (.float .f64 x2) (.string x3) (.slice xA xn xc) (.slice yA yn yc) (.int .i64 u0) (.int .i64 u1) (.float .f64 u2) (.string u3) (.slice uA un uc) (.slice vA vn vc) = S := ⟨_, rfl⟩
 rw [hS] at hS0
 refine wp_region_head 4 S (by rfl) (by kernel_rfl) ?_
 have hX := hide (fun (W : World) (hSw : S W) => have hSw := Eq.mpr (congrFun hS W) hSw; And.intro (Bx.of hSw.a) (Bx.of hSw.b))
 refine HT.take 0 (v := ?_) rfl (by kernel_rfl) (fun _ _ _ h => h) (Or.inl ⟨by rfl, ?_⟩) ‹_› ?_
 rotate_left
 ·intro W hSw; obtain ⟨⟨s0, s1, s2, s3, s4, s5⟩, ⟨t0, t1, t2, t3, t4, t5⟩⟩ := hX.out W hSw; go_simp; with_reducible rfl
 simp only [Act.put, zzA, zzZ, zzS]
 refine HT.take 2 (v := ?_) rfl (by kernel_rfl) (fun _ _ _ h => h) (Or.inl ⟨by rfl, ?_⟩) ‹_› ?_
 rotate_left
 ·intro W hSw; obtain ⟨⟨s0, s1, s2, s3, s4, s5⟩, ⟨t0, t1, t2, t3, t4, t5⟩⟩ := hX.out W hSw; go_simp; with_reducible rfl
 simp only [Act.put, zzA, zzZ, zzS]
 clear hX
 refine HT.one 1 rfl (by kernel_rfl) (by rfl) (fun K hK => ?_)
 go_simp
 refine (H1.out _ st.below).mono ?_
 rintro e w1 ⟨ds1, rfl, hd1, hb1⟩
 have st1 := st.call hb1
 obtain ⟨a0, a1, a2, a3, aA, an, ac, bA, bn, bc, rfl⟩ := hd1.form
 go_simp
 refine hK.out _ _ (by rw [← hS]; exact st1) ?_
 clear hK
 refine HT.one 3 rfl (by kernel_rfl) (by rfl) (fun K hK => ?_)
 go_simp
 refine (H2.out _ st1.below).mono ?_
 rintro e w2 ⟨ds2, rfl, hd2, hb2⟩
 have st2 := st1.call hb2
 obtain ⟨c0, c1, c2, c3, cA, cn, cc, dA, dn, dc, rfl⟩ := hd2.form
 go_simp
 refine hK.out _ _ (by rw [← hS]; exact st2) ?_
 clear hK
 refine HT.done (by kernel_rfl) ?_
 simp only [List.drop_succ_cons, List.drop_zero]
 have hd1' := (hd1.mono (G := Old w1) fun b hb => hb.elim (fun h => h.elim) fun h => h.2).at_ hb2
 have hd2' := hd2.mono (G := Old w2) fun b hb => hb.elim (fun h => h.elim) fun h => h.2
 have Hfin := hide (identical_calls rr w2 _ _ hd1' hd2')
 have Hb := hide st2.below
 clear hS0 hS hd1 hd2 hd1' hd2' hb1 hb2 st1 st2 st
 go_wp2_with fail
 refine Hfin.out.mono ?_
 rintro e w3 ⟨rfl, hb3⟩
 have Hb3 := hide (Hb.out.trans (hb3.mono Hb.out.size))
 clear hb3
 go_wp2
 go_ret
 exact ⟨rfl, Hb3.out⟩

end Go.Proofs.YtbicoknghdgahaaGreat

namespace Go.Proofs.YtbicoknghdgahaaGreat
open Go.RowKit
theorem meth_Get (n : Nat) (v : Value) (w : World) : (method (n + 1) 453 v "Get").run Tryz.prog w = .ok (342, v) w := by kernel_rfl
attribute [local go_sem] run_store_float run_load_k meth_Has meth_Get

def oTree (o : Option T) : T := match o with | none => .null | some t => t
def GetIs (o : Option T) (w : World) (e : Ending) (w' : World) : Prop :=
 ∃ (d0 d1 : Int) (d2 : Nat) (d3 : ByteArray) (KA : Option Addr) (kl kc : Nat) (LA : Option Addr) (ll lc : Nat), e = .returned (.tuple #[.agg #[.int .i64 d0, .int .i64 d1, .float .f64 d2, .string d3, .slice KA kl kc, .slice LA ll lc], .bool o.isSome]) ∧
  RVAt (Fr w.heap.size w') w' (oTree o).toRV [.int .i64 d0, .int .i64 d1, .float .f64 d2, .string d3, .slice KA kl kc, .slice LA ll lc] ∧ Below w.heap.size w w'

theorem fromItem_calls {o : Option T} {v : Value} {w : World} (h : ItemV w o v) : Calls Tryz.prog 64 #[v] w (GivesRV (fun _ => False) (oTree o).toRV w) := by
 cases o with
 | none =>
  have e : v = .nilIface := h
  subst e
  exact fromValue_nil w
 | some t => exact fromValue_calls h

theorem get_ret {fn : Func} {p q : Tmp} (hfn : fn.results = #[.cell p 27, .tmp q]) (tmps : Array Value) {o : Option T} {w w1 : World} {kind n' : Int} {f : Nat} {s : ByteArray} {KA : Option Addr} {kl kc : Nat} {LA : Option Addr} {ll lc : Nat} {a0 a1 a2 a3 a4 a5 : Value}
  (hv : RVAt (fun b => w.heap.size + 2 ≤ b ∧ b < w1.heap.size) w1 (oTree o).toRV [.int .i64 kind, .int .i64 n', .float .f64 f, .string s, .slice KA kl kc, .slice LA ll lc]) (hR : Bk w1 (w.heap.size + 1) 27 #[a0, a1, a2, a3, a4, a5]) (hb : Below w.heap.size w w1)
  (hp : tmps.getD p undef = .pointer (some ⟨w.heap.size + 1, 0, none⟩)) (hq : tmps.getD q undef = .bool o.isSome) :
  bodyPost Tryz.prog fn (GetIs o w) .ret { tmps := tmps, defers := [] } (set6 w1 (w.heap.size + 1) (.int .i64 kind) (.int .i64 n') (.float .f64 f) (.string s) (.slice KA kl kc) (.slice LA ll lc)) := by
 refine bodyPost_ret (results_cell_two hfn _ _ (w.heap.size + 1) 27 #[.int .i64 kind, .int .i64 n', .float .f64 f, .string s, .slice KA kl kc, .slice LA ll lc] (0, 0) _ (.bool o.isSome) hp hq (set6_same _ _ _ _ _ _ hR) Tryz.underlying27 rfl (by kernel_rfl)) rfl ?_
 refine ⟨kind, n', f, s, KA, kl, kc, LA, ll, lc, rfl, ?_, set6_below _ _ _ _ _ _ hb (by omega)⟩
 exact (hv.keeps fun b hb => set6_heap _ _ _ _ _ _ _ _ _ (by have := hb.1; omega)).mono fun b hb => ⟨by have := hb.1; omega, by rw [set6_size]; exact hb.2⟩

end Go.Proofs.YtbicoknghdgahaaGreat
