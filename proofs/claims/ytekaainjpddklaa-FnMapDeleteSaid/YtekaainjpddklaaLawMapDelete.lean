/-
  The law FnMapDelete, of every value and every two keys: it answers true and leaves what stood.
-/
import Derived.Test.YtekaainjpddklaaMapOps
set_option linter.unusedVariables false
set_option linter.unusedSimpArgs false
namespace Go.Proofs.Ytekaainjpddklaa
open Go.RowKit
attribute [local go_sem] run_store_float

/-- the argument's struct, and one that was made -/
structure MD (w : World) (gb : Nat) (a0 a1 a2 a3 a4 a5 b0 b1 b2 b3 b4 b5 : Value) (W : World) : Prop where
  below : Below w.heap.size w W
  a : Bk W w.heap.size 26 #[a0, a1, a2, a3, a4, a5]
  b : Bk W gb 26 #[b0, b1, b2, b3, b4, b5]
theorem MD.call {w : World} {gb : Nat} {a0 a1 a2 a3 a4 a5 b0 b1 b2 b3 b4 b5 : Value} {W W' : World} (h : MD w gb a0 a1 a2 a3 a4 a5 b0 b1 b2 b3 b4 b5 W) (hb : Below W.heap.size W W') : MD w gb a0 a1 a2 a3 a4 a5 b0 b1 b2 b3 b4 b5 W' :=
  ⟨h.below.trans (hb.mono h.below.size), h.a.below hb h.a.lt, h.b.below hb h.b.lt⟩

/-- two structs -/
structure XY (gx gy : Nat) (a0 a1 a2 a3 a4 a5 b0 b1 b2 b3 b4 b5 : Value) (W : World) : Prop where
  x : Bk W gx 26 #[a0, a1, a2, a3, a4, a5]
  y : Bk W gy 26 #[b0, b1, b2, b3, b4, b5]

set_option maxRecDepth 100000 in
set_option maxHeartbeats 8000000 in
theorem mapDeleteLaw (rv : RV) (key other : ByteArray) (w : World) (cs : List Value) (hs1 : key.size ≤ R47) (hs2 : other.size ≤ R47) (h : RVAt (Old w) w rv cs) :
    Calls Try.prog 8 #[.agg cs.toArray, .string key, .string other] w (LawPost w) := by
  have HZ := hide fun (W : World) (hb : Below w.heap.size w W) => fits_calls rv W cs (h.at_ hb)
  have HD := hide fun (W : World) (hb : Below w.heap.size w W) => implDelete_calls rv key W _ (h.at_ hb)
  have HH := hide fun (W : World) (hb : Below w.heap.size w W) => implHas_calls rv key W _ (h.at_ hb)
  have HG := hide fun (W : World) (hb : Below w.heap.size w W) => implGet_calls rv other W _ (h.at_ hb)
  have hwm : ∀ (W : World), Below w.heap.size w W → Calls Try.prog 34 #[.agg cs.toArray] W (GivesRV (fun _ => False) (T.map rv.flds).toRV W) := by
    intro W hb
    obtain ⟨kd, n, f, s, keys, l⟩ := rv
    exact wMap_calls kd n f s keys l W _ (h.at_ hb)
  have HW := hide hwm
  have hws := hide (map_ws rv)
  generalize rv.flds = l at *
  obtain ⟨a0, a1, a2, a3, KA1, kn1, kc1, LA1, ln1, lc1, rfl⟩ := h.form
  have hk47 : key.size ≤ 140737488351232 := hs1
  have ho47 : other.size ≤ 140737488351232 := hs2
  clear h hwm hs1 hs2
  go_enter Try.func8, Try.ntmps8
  go_wp2_with fail
  have hb0 : Below w.heap.size w (w.alloc (.cells #[.int .i64 a0, .int .i64 a1, .float .f64 a2, .string a3, .slice KA1 kn1 kc1, .slice LA1 ln1 lc1] 26)) := (Below.refl _ _).alloc (Nat.le_refl _) _
  have ha0 := Bk.new w 26 #[.int .i64 a0, .int .i64 a1, .float .f64 a2, .string a3, .slice KA1 kn1 kc1, .slice LA1 ln1 lc1]
  generalize World.alloc _ _ = W at hb0 ha0 ⊢
  refine (HZ.out _ hb0).mono ?_
  rintro e w1 ⟨⟨b, rfl⟩, hb⟩
  replace ha0 := ha0.below hb ha0.lt
  replace hb0 := hb0.trans (hb.mono hb0.size)
  obtain ⟨p0, p1, p2, p3, p4, p5⟩ := Bx.of ha0
  have H0 := hide (And.intro ha0 hb0)
  clear ha0 hb0 hb HZ
  cases b
  · go_wp2
    go_ret
    exact ⟨rfl, H0.out.2⟩
  by_cases hk1 : (key.size : Int) ≤ 2147483647
  case neg =>
    go_wp2
    go_ret
    exact ⟨rfl, H0.out.2⟩
  by_cases hk2 : (other.size : Int) ≤ 2147483647
  case neg =>
    go_wp2
    go_ret
    exact ⟨rfl, H0.out.2⟩
  go_wp2_with fail
  refine (HD.out _ H0.out.2).mono ?_
  rintro e w2 ⟨bs, rfl, hbs, hb⟩
  clear p0 p1 p2 p3 p4 p5 HD
  rw [toRV_fields] at hbs
  have hbs := hbs.mono (G := Old w2) fun b hb => hb.elim (fun h => h.elim) fun h => h.2
  obtain ⟨bK, bkc, bL, blc, rfl⟩ := hbs.fields
  have hwd := delK_ws (k := key) hws.out
  have e1 : (fieldsRV ((delK key l).map fun p => (p.1, p.2.toRV))).flds = delK key l := by rw [← toRV_fields]; exact flds_map hwd
  have e2 : (fieldsRV ((delK key l).map fun p => (p.1, p.2.toRV))).tree = T.map (delK key l) := by rw [← toRV_fields]; exact toRV_tree hwd
  have hBH := fun (W : World) (hb : Below w2.heap.size w2 W) => implHas_calls _ key W _ (hbs.at_ hb)
  have hBG := fun (W : World) (hb : Below w2.heap.size w2 W) => implGet_calls _ other W _ (hbs.at_ hb)
  rw [e1, delK_getT_self] at hBH
  rw [e1] at hBG
  have hBS := fun (he : delK key l = l) (W : World) (hb : Below w2.heap.size w2 W) ds (hd : RVAt (Old W) W (T.map l).toRV ds) => sameValue_calls _ (T.map l).toRV (by rw [e2, he]; exact (toRV_tree hws.out).symm) W _ ds (hbs.at_ hb) hd
  have HBH := hide hBH
  have HBG := hide hBG
  have HBS := hide hBS
  generalize ((delK key l).map fun p => (p.1, p.2.toRV)).length = nb at *
  have st : MD w w2.heap.size (.int .i64 a0) (.int .i64 a1) (.float .f64 a2) (.string a3) (.slice KA1 kn1 kc1) (.slice LA1 ln1 lc1) (.int .i64 6) (.int .i64 0) (.float .f64 0) (.string ⟨#[]⟩) (.slice bK nb bkc) (.slice bL nb blc) (w2.alloc (.cells #[.int .i64 6, .int .i64 0, .float .f64 0, .string ⟨#[]⟩, .slice bK nb bkc, .slice bL nb blc] 26)) :=
    ⟨(H0.out.2.trans (hb.mono H0.out.2.size)).alloc (Nat.le_trans H0.out.2.size hb.size) _, (H0.out.1.below hb H0.out.1.lt).alloc _, Bk.new _ _ _⟩
  have st2 : Below w2.heap.size w2 (w2.alloc (.cells #[.int .i64 6, .int .i64 0, .float .f64 0, .string ⟨#[]⟩, .slice bK nb bkc, .slice bL nb blc] 26)) := (Below.refl _ _).alloc (Nat.le_refl _) _
  have St := hide (And.intro st st2)
  clear hbs hwd e1 e2 hBH hBG hBS hb H0 st st2
  go_upto_region 4 with fail
  have st := St.out.1
  have st2 := St.out.2
  clear St
  generalize World.alloc _ _ = W3 at st st2 ⊢
  generalize w2.heap.size = gb at st ⊢
  obtain ⟨p0, p1, p2, p3, p4, p5⟩ := Bx.of st.a
  obtain ⟨q0, q1, q2, q3, q4, q5⟩ := Bx.of st.b
  have St := hide (And.intro st st2)
  clear st st2
  go_wp2_with fail
  refine (HBH.out _ St.out.2).mono ?_
  rintro e w4 ⟨rfl, hb⟩
  have st := St.out.1.call hb
  have st2 := St.out.2.trans (hb.mono St.out.2.size)
  clear hb St p0 p1 p2 p3 p4 p5 q0 q1 q2 q3 q4 q5 HBH
  obtain ⟨q0, q1, q2, q3, q4, q5⟩ := Bx.of st.b
  have St := hide (And.intro st st2)
  clear st st2
  rw [show (none : Option T).isSome = false from rfl]
  go_upto_region 6 with fail
  clear q0 q1 q2 q3 q4 q5
  obtain ⟨hd, hhd⟩ : ∃ d, (getT l key).isSome = d := ⟨_, rfl⟩
  rw [hhd] at HH
  have st := St.out.1.call (below_drew (Below.refl _ _))
  have st2 := St.out.2.trans ((below_drew (Below.refl w4.heap.size w4)).mono St.out.2.size)
  clear St
  have hS0 := st
  obtain ⟨S, hS⟩ : ∃ S, MD w gb (.int .i64 a0) (.int .i64 a1) (.float .f64 a2) (.string a3) (.slice KA1 kn1 kc1) (.slice LA1 ln1 lc1) (.int .i64 6) (.int .i64 0) (.float .f64 0) (.string ⟨#[]⟩) (.slice bK nb bkc) (.slice bL nb blc) = S := ⟨_, rfl⟩
  rw [hS] at hS0
  cases hd
  case' true =>
    refine wp_region_head 10 S (by rfl) (by kernel_rfl) ?_
    refine HT.take 0 (v := ?_) rfl (by kernel_rfl) (fun _ _ _ h => h) (Or.inl ⟨by rfl, ?_⟩) (by assumption) ?_
    rotate_left
    · intro W hSw; rw [← hS] at hSw; obtain ⟨s0, s1, s2, s3, s4, s5⟩ := Bx.of hSw.a; clear hSw; go_simp; with_reducible rfl
    simp only [Act.put, List.setIfInBounds_toArray, List.set_cons_zero, List.set_cons_succ]
    refine HT.take 1 (v := ?_) rfl (by kernel_rfl) (fun _ _ _ h => h) (Or.inl ⟨by rfl, ?_⟩) (by assumption) ?_
    rotate_left
    · intro W hSw; rw [← hS] at hSw; obtain ⟨s0, s1, s2, s3, s4, s5⟩ := Bx.of hSw.a; clear hSw; go_simp; with_reducible rfl
    simp only [Act.put, List.setIfInBounds_toArray, List.set_cons_zero, List.set_cons_succ]
    refine HT.one 2 rfl (by kernel_rfl) (by rfl) (fun K hK => ?_)
    go_simp
    refine (HH.out _ st.below).mono ?_
    rintro e w5 ⟨rfl, hb⟩
    replace st := st.call hb
    replace st2 := st2.trans (hb.mono st2.size)
    go_simp
    clear hS0
    have hS0 : S w5 := by rw [← hS]; exact st
    refine hK.out _ _ hS0 ?_
    clear hK
    refine HT.take 3 (v := ?_) rfl (by kernel_rfl) (fun _ _ _ h => h) (Or.inl ⟨by rfl, ?_⟩) (by assumption) ?_
    rotate_left
    · intro W hSw; go_simp; with_reducible rfl
    simp only [Act.put, List.setIfInBounds_toArray, List.set_cons_zero, List.set_cons_succ]
    refine HT.take 4 (v := ?_) rfl (by kernel_rfl) (fun _ _ _ h => h) (Or.inl ⟨by rfl, ?_⟩) (by assumption) ?_
    rotate_left
    · intro W hSw; go_simp; with_reducible rfl
    simp only [Act.put, List.setIfInBounds_toArray, List.set_cons_zero, List.set_cons_succ]
    refine HT.take 5 (v := undef) rfl (by kernel_rfl) (fun _ _ _ h => h) (Or.inr ⟨by rfl, rfl⟩) (by assumption) ?_
    simp only [Act.put, List.setIfInBounds_toArray, List.set_cons_zero, List.set_cons_succ]
    refine HT.take 6 (v := undef) rfl (by kernel_rfl) (fun _ _ _ h => h) (Or.inr ⟨by rfl, rfl⟩) (by assumption) ?_
    simp only [Act.put, List.setIfInBounds_toArray, List.set_cons_zero, List.set_cons_succ]
    refine HT.take 7 (v := undef) rfl (by kernel_rfl) (fun _ _ _ h => h) (Or.inr ⟨by rfl, rfl⟩) (by assumption) ?_
    simp only [Act.put, List.setIfInBounds_toArray, List.set_cons_zero, List.set_cons_succ]
    refine HT.take 8 (v := undef) rfl (by kernel_rfl) (fun _ _ _ h => h) (Or.inr ⟨by rfl, rfl⟩) (by assumption) ?_
    simp only [Act.put, List.setIfInBounds_toArray, List.set_cons_zero, List.set_cons_succ]
    refine HT.take 9 (v := undef) rfl (by kernel_rfl) (fun _ _ _ h => h) (Or.inr ⟨by rfl, rfl⟩) (by assumption) ?_
    simp only [Act.put, List.setIfInBounds_toArray, List.set_cons_zero, List.set_cons_succ]
    refine HT.done (by kernel_rfl) ?_
    simp only [List.drop_succ_cons, List.drop_zero]
    have St := hide (And.intro st st2)
    clear st st2 hS0 hS hb HH hhd
    go_upto_region 8 with fail
  case' false =>
    have hid : delK key l = l := delK_id (by simpa using hhd)
    refine wp_region_head 10 S (by rfl) (by kernel_rfl) ?_
    refine HT.take 0 (v := ?_) rfl (by kernel_rfl) (fun _ _ _ h => h) (Or.inl ⟨by rfl, ?_⟩) (by assumption) ?_
    rotate_left
    · intro W hSw; rw [← hS] at hSw; obtain ⟨s0, s1, s2, s3, s4, s5⟩ := Bx.of hSw.a; clear hSw; go_simp; with_reducible rfl
    simp only [Act.put, List.setIfInBounds_toArray, List.set_cons_zero, List.set_cons_succ]
    refine HT.take 1 (v := ?_) rfl (by kernel_rfl) (fun _ _ _ h => h) (Or.inl ⟨by rfl, ?_⟩) (by assumption) ?_
    rotate_left
    · intro W hSw; rw [← hS] at hSw; obtain ⟨s0, s1, s2, s3, s4, s5⟩ := Bx.of hSw.a; clear hSw; go_simp; with_reducible rfl
    simp only [Act.put, List.setIfInBounds_toArray, List.set_cons_zero, List.set_cons_succ]
    refine HT.one 2 rfl (by kernel_rfl) (by rfl) (fun K hK => ?_)
    go_simp
    refine (HH.out _ st.below).mono ?_
    rintro e w5 ⟨rfl, hb⟩
    replace st := st.call hb
    replace st2 := st2.trans (hb.mono st2.size)
    go_simp
    clear hS0
    have hS0 : S w5 := by rw [← hS]; exact st
    refine hK.out _ _ hS0 ?_
    clear hK hb
    refine HT.take 3 (v := ?_) rfl (by kernel_rfl) (fun _ _ _ h => h) (Or.inl ⟨by rfl, ?_⟩) (by assumption) ?_
    rotate_left
    · intro W hSw; rw [← hS] at hSw; obtain ⟨s0, s1, s2, s3, s4, s5⟩ := Bx.of hSw.a; obtain ⟨t0, t1, t2, t3, t4, t5⟩ := Bx.of hSw.b; clear hSw; go_simp; with_reducible rfl
    simp only [Act.put, List.setIfInBounds_toArray, List.set_cons_zero, List.set_cons_succ]
    refine HT.take 4 (v := ?_) rfl (by kernel_rfl) (fun _ _ _ h => h) (Or.inl ⟨by rfl, ?_⟩) (by assumption) ?_
    rotate_left
    · intro W hSw; rw [← hS] at hSw; obtain ⟨s0, s1, s2, s3, s4, s5⟩ := Bx.of hSw.a; obtain ⟨t0, t1, t2, t3, t4, t5⟩ := Bx.of hSw.b; clear hSw; go_simp; with_reducible rfl
    simp only [Act.put, List.setIfInBounds_toArray, List.set_cons_zero, List.set_cons_succ]
    refine HT.take 5 (v := ?_) rfl (by kernel_rfl) (fun _ _ _ h => h) (Or.inl ⟨by rfl, ?_⟩) (by assumption) ?_
    rotate_left
    · intro W hSw; rw [← hS] at hSw; obtain ⟨s0, s1, s2, s3, s4, s5⟩ := Bx.of hSw.a; obtain ⟨t0, t1, t2, t3, t4, t5⟩ := Bx.of hSw.b; clear hSw; go_simp; with_reducible rfl
    simp only [Act.put, List.setIfInBounds_toArray, List.set_cons_zero, List.set_cons_succ]
    refine HT.take 6 (v := ?_) rfl (by kernel_rfl) (fun _ _ _ h => h) (Or.inl ⟨by rfl, ?_⟩) (by assumption) ?_
    rotate_left
    · intro W hSw; rw [← hS] at hSw; obtain ⟨s0, s1, s2, s3, s4, s5⟩ := Bx.of hSw.a; obtain ⟨t0, t1, t2, t3, t4, t5⟩ := Bx.of hSw.b; clear hSw; go_simp; with_reducible rfl
    simp only [Act.put, List.setIfInBounds_toArray, List.set_cons_zero, List.set_cons_succ]
    refine HT.one 7 rfl (by kernel_rfl) (by rfl) (fun K hK => ?_)
    go_simp
    refine (HW.out _ st.below).mono ?_
    rintro e w6 ⟨ms, rfl, hms, hb⟩
    replace st := st.call hb
    replace st2 := st2.trans (hb.mono st2.size)
    have hms := hms.mono (G := Old w6) fun b hb => hb.elim (fun h => h.elim) fun h => h.2
    obtain ⟨m0, m1, m2, m3, mA, mn, mc, nA, nn, nc, rfl⟩ := hms.form
    go_simp
    clear hS0
    have hS0 : S w6 := by rw [← hS]; exact st
    refine hK.out _ _ hS0 ?_
    clear hK hb
    refine HT.one 8 rfl (by kernel_rfl) (by rfl) (fun K hK => ?_)
    go_simp
    refine (HBS.out hid _ st2 _ hms).mono ?_
    rintro e w7 ⟨rfl, hb⟩
    replace st := st.call hb
    replace st2 := st2.trans (hb.mono st2.size)
    go_simp
    clear hS0
    have hS0 : S w7 := by rw [← hS]; exact st
    refine hK.out _ _ hS0 ?_
    clear hK
    refine HT.take 9 (v := ?_) rfl (by kernel_rfl) (fun _ _ _ h => h) (Or.inl ⟨by rfl, ?_⟩) (by assumption) ?_
    rotate_left
    · intro W hSw; go_simp; with_reducible rfl
    simp only [Act.put, List.setIfInBounds_toArray, List.set_cons_zero, List.set_cons_succ]
    refine HT.done (by kernel_rfl) ?_
    simp only [List.drop_succ_cons, List.drop_zero]
    have St := hide (And.intro st st2)
    clear st st2 hS0 hS hb hms hid HH hhd
    go_upto_region 8 with fail
  all_goals
    obtain ⟨p0, p1, p2, p3, p4, p5⟩ := Bx.of St.out.1.a
    go_wp2_with fail
    refine (HG.out _ St.out.1.below).mono ?_
    rintro e w8 ⟨d0, d1, d2, d3, dA, dn, dc, eA, en, ec, rfl, hx, hb⟩
    have hx := hx.mono (G := Old w8) fun b hb => hb.2
    have st := St.out.1.call hb
    have st2 := St.out.2.trans (hb.mono St.out.2.size)
    clear St hb p0 p1 p2 p3 p4 p5
    have hbx : Below w8.heap.size w8 (w8.alloc (.cells #[.int .i64 d0, .int .i64 d1, .float .f64 d2, .string d3, .slice dA dn dc, .slice eA en ec] 26)) := (Below.refl _ _).alloc (Nat.le_refl _) _
    have St := hide (And.intro (st.call hbx) (And.intro (st2.trans (hbx.mono st2.size)) (And.intro (hx.at_ hbx) (Bk.new w8 26 #[.int .i64 d0, .int .i64 d1, .float .f64 d2, .string d3, .slice dA dn dc, .slice eA en ec]))))
    clear st st2 hx hbx
    go_upto_region 9 with fail
    have st := St.out
    clear St
    generalize World.alloc _ _ = w9 at st ⊢
    generalize w8.heap.size = gx at st ⊢
    have St := hide st
    clear st
    obtain ⟨q0, q1, q2, q3, q4, q5⟩ := Bx.of St.out.1.b
    go_wp2_with fail
    refine (HBG.out _ St.out.2.1).mono ?_
    rintro e w10 ⟨g0, g1, g2, g3, gA, gn, gc, fA, fn, fc, rfl, hy, hb⟩
    have hy := hy.mono (G := Old w10) fun b hb => hb.2
    have hbel := St.out.1.below.trans (hb.mono St.out.1.below.size)
    have hx := St.out.2.2.1.at_ hb
    have hX := St.out.2.2.2.below hb St.out.2.2.2.lt
    clear St hb q0 q1 q2 q3 q4 q5
    have hbx : Below w10.heap.size w10 (w10.alloc (.cells #[.int .i64 g0, .int .i64 g1, .float .f64 g2, .string g3, .slice gA gn gc, .slice fA fn fc] 26)) := (Below.refl _ _).alloc (Nat.le_refl _) _
    have St := hide (And.intro (hbel.trans (hbx.mono hbel.size)) (And.intro (hx.at_ hbx) (And.intro (hy.at_ hbx) (And.intro (hX.below hbx hX.lt) (Bk.new w10 26 #[.int .i64 g0, .int .i64 g1, .float .f64 g2, .string g3, .slice gA gn gc, .slice fA fn fc])))))
    clear hbel hx hy hX hbx
    go_upto_region 10 with fail
    have st := St.out
    clear St
    generalize World.alloc _ _ = w11 at st ⊢
    generalize w10.heap.size = gy at st ⊢
    have St := hide st
    clear st
    obtain ⟨p0, p1, p2, p3, p4, p5⟩ := Bx.of St.out.2.2.2.1
    obtain ⟨q0, q1, q2, q3, q4, q5⟩ := Bx.of St.out.2.2.2.2
    by_cases hok : other = key
    case' pos =>
      subst hok
      have Hfin := hide St.out.1
      clear St
      go_wp2
      go_ret
      exact ⟨rfl, Hfin.out⟩
    case' neg =>
      have heq : (other.toList == key.toList) = false := by rw [str_eq]; simpa using hok
      have ho := delK_getT l hok
      have hxx := St.out.2.1
      have hyy := St.out.2.2.1
      rw [ho] at hyy ⊢
      have hcall := wSame_calls _ _ (getT l other).isSome rfl w11 _ _ hxx hyy
      have Hcall := hide hcall
      generalize (getT l other).isSome = bb at *
      clear hok ho hxx hyy hcall
      go_wp2_with fail
      refine Hcall.out.mono ?_
      rintro e w12 ⟨rfl, hb⟩
      have Hfin := hide (St.out.1.trans (hb.mono St.out.1.size))
      clear St hb p0 p1 p2 p3 p4 p5 q0 q1 q2 q3 q4 q5
      go_wp2
      go_ret
      exact ⟨rfl, Hfin.out⟩

end Go.Proofs.Ytekaainjpddklaa
