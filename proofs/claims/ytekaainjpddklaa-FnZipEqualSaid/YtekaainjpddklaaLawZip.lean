/-
  The law FnZipEqual, of every two values: it answers true and leaves what stood.
-/
import Derived.Test.YtekaainjpddklaaZipMaps
import Derived.Test.YtekaainjpddklaaSpecV
import Derived.Test.YtekaainjpddklaaOneP
import Derived.Test.YtekaainjpddklaaTwo
set_option linter.unusedVariables false
set_option linter.unusedSimpArgs false
namespace Go.Proofs.Ytekaainjpddklaa
open Go.RowKit
attribute [local go_sem] run_store_float

/-! plain: two maps are equal just if they are under each key -/
theorem eqvM_all {l1 l2 : List (ByteArray × T)} (s1 : Sorted l1) (s2 : Sorted l2) : T.eqvM l1 l2 = (bothK l1 l2).all (eqK l1 l2) := by
  rw [Bool.eq_iff_iff, List.all_eq_true]
  have n1 := sorted_nodup s1
  have n2 := sorted_nodup s2
  constructor
  · intro h k hk
    have he := eqvM_keys h
    refine ((eqvM_iff' s1 s2).1 h).2 k ?_
    rcases (mem_mergeK _ _ _).1 hk with hk | hk
    · rw [← he]; exact hk
    · exact hk
  · intro h
    rw [eqvM_iff' s1 s2]
    have g : ∀ k ∈ bothK l1 l2, k ∈ l1.map Prod.fst ∧ k ∈ l2.map Prod.fst := by
      intro k hk
      have := h k hk
      unfold eqK at this
      cases hg : getT l1 k with
      | none => rw [hg] at this; cases this
      | some t =>
        cases hg2 : getT l2 k with
        | none => rw [hg, hg2] at this; cases this
        | some t2 => exact ⟨List.mem_map.2 ⟨_, getT_mem hg, rfl⟩, List.mem_map.2 ⟨_, getT_mem hg2, rfl⟩⟩
    have hp : (l1.map Prod.fst).Perm (l2.map Prod.fst) := (List.perm_ext_iff_of_nodup n1 n2).2 fun k => ⟨fun hk => (g k ((mem_mergeK _ _ _).2 (.inl hk))).2, fun hk => (g k ((mem_mergeK _ _ _).2 (.inr hk))).1⟩
    refine ⟨by simpa using hp.length_eq, fun k hk => h k ((mem_mergeK _ _ _).2 (.inr hk))⟩

theorem flds_length (kd n : Int) (f : Nat) (s : ByteArray) (keys : List ByteArray) (l : List RV) : (RV.mk kd n f s keys l).flds.length ≤ l.length := by
  have := mapOf_take_length keys (l.map RV.tree) l.length
  rw [List.take_of_length_le (l := l.map RV.tree) (by simp)] at this
  rw [RV.flds]
  have h2 := mapOf_take_all keys (l.map RV.tree) l.length (.inr (by simp))
  rw [List.take_of_length_le (l := l.map RV.tree) (by simp)] at h2
  rw [← h2]
  exact this
theorem both_length (l1 l2 : List (ByteArray × T)) (s1 : Sorted l1) (s2 : Sorted l2) : (bothK l1 l2).length ≤ l1.length + l2.length := by
  have h3 := (mergeK_sorted _ _ (sortK_of s1) (sortK_of s2)).nodup.length_le_of_subset (l₂ := l1.map Prod.fst ++ l2.map Prod.fst) (fun k hk => List.mem_append.2 ((mem_mergeK _ _ _).1 hk))
  rw [List.length_append, List.length_map, List.length_map] at h3
  exact h3
theorem flds_sorted (r : RV) : Sorted r.flds := by
  obtain ⟨kd, n, f, s, keys, l⟩ := r
  exact mapOf_sorted _ _
theorem flds_ws (r : RV) {k : ByteArray} {t : T} (h : getT r.flds k = some t) : t.WS := by
  obtain ⟨kd, n, f, s, keys, l⟩ := r
  have := mapOf_mem _ _ _ (getT_mem h)
  obtain ⟨r, _, e⟩ := List.mem_map.1 this
  have e : r.tree = t := e
  rw [← e]
  exact tree_ws r

/-- the cells that a comparison of two rows' first elements loads -/
structure ZS (g b1 o1 b2 o2 c1 c2 : Nat) (x0 x1 x2 x3 x4 x5 y0 y1 y2 y3 y4 y5 : Value) (W : World) : Prop where
  z1 : W.cell? ⟨g, 1, none⟩ = some (.slice (some ⟨b1, o1, none⟩) 1 c1)
  z2 : W.cell? ⟨g, 2, none⟩ = some (.slice (some ⟨b2, o2, none⟩) 1 c2)
  x0 : W.cell? ⟨b1, o1, none⟩ = some x0
  x1 : W.cell? ⟨b1, o1 + 1, none⟩ = some x1
  x2 : W.cell? ⟨b1, o1 + 2, none⟩ = some x2
  x3 : W.cell? ⟨b1, o1 + 3, none⟩ = some x3
  x4 : W.cell? ⟨b1, o1 + 4, none⟩ = some x4
  x5 : W.cell? ⟨b1, o1 + 5, none⟩ = some x5
  y0 : W.cell? ⟨b2, o2, none⟩ = some y0
  y1 : W.cell? ⟨b2, o2 + 1, none⟩ = some y1
  y2 : W.cell? ⟨b2, o2 + 2, none⟩ = some y2
  y3 : W.cell? ⟨b2, o2 + 3, none⟩ = some y3
  y4 : W.cell? ⟨b2, o2 + 4, none⟩ = some y4
  y5 : W.cell? ⟨b2, o2 + 5, none⟩ = some y5
theorem ZS.below {g b1 o1 b2 o2 c1 c2 B : Nat} {x0 x1 x2 x3 x4 x5 y0 y1 y2 y3 y4 y5 : Value} {W W' : World} (h : ZS g b1 o1 b2 o2 c1 c2 x0 x1 x2 x3 x4 x5 y0 y1 y2 y3 y4 y5 W) (hb : Below B W W') (hg : g < B) (h1 : b1 < B) (h2 : b2 < B) : ZS g b1 o1 b2 o2 c1 c2 x0 x1 x2 x3 x4 x5 y0 y1 y2 y3 y4 y5 W' := by
  have e := (bcell hb).1
  exact ⟨(e _ _ hg).trans h.z1, (e _ _ hg).trans h.z2, (e _ _ h1).trans h.x0, (e _ _ h1).trans h.x1, (e _ _ h1).trans h.x2, (e _ _ h1).trans h.x3, (e _ _ h1).trans h.x4, (e _ _ h1).trans h.x5, (e _ _ h2).trans h.y0, (e _ _ h2).trans h.y1, (e _ _ h2).trans h.y2, (e _ _ h2).trans h.y3, (e _ _ h2).trans h.y4, (e _ _ h2).trans h.y5⟩

theorem OptRow.form {F : Nat → Prop} {w : World} {o : Option T} {v : Value} (h : OptRow F w o v) : ∃ A n c, v = .slice A n c := by
  cases o with
  | none => exact ⟨_, _, _, h⟩
  | some t =>
    obtain ⟨A, c, cs, rfl, _⟩ := h
    exact ⟨_, _, _, rfl⟩
/-- at the head of a round -/
def ZEI (W0 : World) (ks : List ByteArray) (p : ByteArray → Bool) (s5 s30 : Value) (W : World) : Prop := ∃ k : Nat, s30 = .int .i64 (k : Int) ∧ k ≤ ks.length ∧ s5 = .bool ((ks.take k).all p) ∧ Below W0.heap.size W0 W

theorem zei_next {W0 W : World} {ks : List ByteArray} {p : ByteArray → Bool} {k : Nat} {d : Bool} (hlt : k < ks.length) (hd : (ks.take (k + 1)).all p = d) (hb : Below W0.heap.size W0 W) : ZEI W0 ks p (.bool d) (.int .i64 ((k : Int) + 1)) W :=
  ⟨k + 1, rfl, hlt, by rw [hd], hb⟩

theorem RVAt.kind6 {F : Nat → Prop} {w : World} {kd n : Int} {f : Nat} {s : ByteArray} {keys : List ByteArray} {l : List RV} {a0 a1 a2 a3 a4 a5 : Value} (h : RVAt F w (.mk kd n f s keys l) [a0, a1, a2, a3, a4, a5]) : RVAt F w (.mk 6 n f s keys l) [.int .i64 6, a1, a2, a3, a4, a5] := by
  cases h with
  | mk h1 h2 h3 h4 h5 h6 h7 h8 h9 h10 h11 h12 h13 h14 => exact .mk ⟨by decide, by decide⟩ h2 h3 h4 h5 h6 h7 h8 h9 h10 h11 h12 h13 h14

theorem zz5b_calls (r : RV) (w : World) (cs : List Value) (h : RVAt (Old w) w r cs) : Calls Try.prog 15 #[.agg cs.toArray] w (GivesBound (r.flds.length ≤ 2147483647) w) := by
  obtain ⟨kind, n, f, s, keys, l⟩ := r
  refine (zzFits5_calls kind n f s keys l w cs h).mono ?_
  rintro e w' ⟨b, h1, h2, h3⟩
  exact ⟨b, h1, fun hb => Nat.le_trans (flds_length _ _ _ _ _ _) (h2 hb).2, h3⟩

set_option maxRecDepth 100000 in
set_option maxHeartbeats 8000000 in
theorem zipLaw (r1 r2 : RV) (w : World) (cs1 cs2 : List Value) (h1 : RVAt (Old w) w r1 cs1) (h2 : RVAt (Old w) w r2 cs2) :
    Calls Try.prog 14 #[.agg cs1.toArray, .agg cs2.toArray] w (LawPost w) := by
  have HZ1 := hide fun (W : World) (hb : Below w.heap.size w W) => zz5b_calls r1 W cs1 (h1.at_ hb)
  have HZ2 := hide fun (W : World) (hb : Below w.heap.size w W) => zz5b_calls r2 W cs2 (h2.at_ hb)
  obtain ⟨k1, n1, f1, s1, keys1, l1⟩ := r1
  obtain ⟨k2, n2, f2, s2, keys2, l2⟩ := r2
  obtain ⟨a0, a1, a2, a3, KA1, kn1, kc1, LA1, ln1, lc1, rfl⟩ := h1.form
  obtain ⟨b0, b1, b2, b3, KA2, kn2, kc2, LA2, ln2, lc2, rfl⟩ := h2.form
  have g1 := h1.kind6
  have g2 := h2.kind6
  have e1 : (RV.mk k1 n1 f1 s1 keys1 l1).flds = (RV.mk 6 n1 f1 s1 keys1 l1).flds := rfl
  have e2 : (RV.mk k2 n2 f2 s2 keys2 l2).flds = (RV.mk 6 n2 f2 s2 keys2 l2).flds := rfl
  rw [e1] at HZ1
  rw [e2] at HZ2
  generalize RV.mk 6 n1 f1 s1 keys1 l1 = r1 at g1 HZ1
  generalize RV.mk 6 n2 f2 s2 keys2 l2 = r2 at g2 HZ2
  have HO1 := hide fun (W : World) (hb : Below w.heap.size w W) => orderly_all r1 W _ (g1.at_ hb)
  have HO2 := hide fun (W : World) (hb : Below w.heap.size w W) => orderly_all r2 W _ (g2.at_ hb)
  have HZM := hide fun (W : World) (hb : Below w.heap.size w W) => zipMaps_calls r1 r2 W _ _ (g1.at_ hb) (g2.at_ hb)
  have HEM := fun (W : World) (hb : Below w.heap.size w W) => implEqualMaps_calls r1 r2 W _ _ (g1.at_ hb) (g2.at_ hb)
  rw [eqvM_all (flds_sorted r1) (flds_sorted r2)] at HEM
  have HEM := hide HEM
  clear h1 h2 g1 g2 e1 e2
  go_enter Try.func14, Try.ntmps14
  go_wp2_with fail
  have st := B2.made w 26 (.int .i64 a0) (.int .i64 a1) (.float .f64 a2) (.string a3) (.slice KA1 kn1 kc1) (.slice LA1 ln1 lc1) (.int .i64 b0) (.int .i64 b1) (.float .f64 b2) (.string b3) (.slice KA2 kn2 kc2) (.slice LA2 ln2 lc2)
  generalize World.alloc _ _ = W at st ⊢
  obtain ⟨p0, p1, p2, p3, p4, p5⟩ := Bx.of st.a
  obtain ⟨q0, q1, q2, q3, q4, q5⟩ := Bx.of st.b
  go_wp2_with fail
  refine (HZ1.out _ st.below).mono ?_
  rintro e w1 ⟨b, rfl, hz1, hb⟩
  clear p0 p1 p2 p3 p4 p5 q0 q1 q2 q3 q4 q5
  replace st := st.call hb
  have Hz1 := hide hz1
  clear hb hz1
  obtain ⟨p0, p1, p2, p3, p4, p5⟩ := Bx.of st.a
  obtain ⟨q0, q1, q2, q3, q4, q5⟩ := Bx.of st.b
  cases b
  · go_wp2
    go_ret
    exact ⟨rfl, st.below⟩
  go_wp2_with fail
  refine (HZ2.out _ st.below).mono ?_
  rintro e w2 ⟨b, rfl, hz2, hb⟩
  clear p0 p1 p2 p3 p4 p5 q0 q1 q2 q3 q4 q5
  replace st := st.call hb
  have Hz2 := hide hz2
  clear hb hz2
  obtain ⟨p0, p1, p2, p3, p4, p5⟩ := Bx.of st.a
  obtain ⟨q0, q1, q2, q3, q4, q5⟩ := Bx.of st.b
  cases b
  · go_wp2
    go_ret
    exact ⟨rfl, st.below⟩
  have hsm : (bothK r1.flds r2.flds).length ≤ 8589934592 := by
    have := both_length _ _ (flds_sorted r1) (flds_sorted r2)
    have := Hz1.out (by first | exact trivial | rfl)
    have := Hz2.out (by first | exact trivial | rfl)
    omega
  have Hsm := hide hsm
  clear hsm Hz1 Hz2 HZ1 HZ2
  have fz0 : ∀ i, w2.frozen? ⟨w.heap.size, i, none⟩ = false := fun i => st.a.free i
  have fz1 : ∀ i, w2.frozen? ⟨w.heap.size + 1, i, none⟩ = false := fun i => st.b.free i
  have St := hide (st.kind (.int .i64 6) (.int .i64 6))
  clear st
  go_upto_region 4 with fail
  have st := St.out
  clear St p0 p1 p2 p3 p4 p5 q0 q1 q2 q3 q4 q5 fz0 fz1
  generalize World.setCell _ _ _ = W4 at st ⊢
  obtain ⟨p0, p1, p2, p3, p4, p5⟩ := Bx.of st.a
  obtain ⟨q0, q1, q2, q3, q4, q5⟩ := Bx.of st.b
  go_wp2_with fail
  refine (HO1.out _ st.below).mono ?_
  rintro e w5 ⟨b, rfl, -, hb⟩
  clear p0 p1 p2 p3 p4 p5 q0 q1 q2 q3 q4 q5
  replace st := st.call hb
  clear hb
  obtain ⟨p0, p1, p2, p3, p4, p5⟩ := Bx.of st.a
  obtain ⟨q0, q1, q2, q3, q4, q5⟩ := Bx.of st.b
  cases b
  · go_wp2
    go_ret
    exact ⟨rfl, st.below⟩
  go_wp2_with fail
  refine (HO2.out _ st.below).mono ?_
  rintro e w6 ⟨b, rfl, -, hb⟩
  clear p0 p1 p2 p3 p4 p5 q0 q1 q2 q3 q4 q5
  replace st := st.call hb
  clear hb
  obtain ⟨p0, p1, p2, p3, p4, p5⟩ := Bx.of st.a
  obtain ⟨q0, q1, q2, q3, q4, q5⟩ := Bx.of st.b
  cases b
  · go_wp2
    go_ret
    exact ⟨rfl, st.below⟩
  go_wp2_with fail
  refine (HZM.out _ st.below Hsm.out).mono ?_
  rintro e W0 ⟨A, c, us, rfl, hc1, hc2, hrow, hus, hb⟩
  clear p0 p1 p2 p3 p4 p5 q0 q1 q2 q3 q4 q5 HO1 HO2 HZM
  replace st := st.call hb
  have hrow := hrow.mono (G := Old W0) fun b hb => hb.2
  have hus := hus.mono (Q := ZAt (Old W0) W0 r1.flds r2.flds) fun a cs hz => hz.mono fun b hb => hb.2
  have Hw1 := hide fun k t (h : getT r1.flds k = some t) => flds_ws r1 h
  have Hw2 := hide fun k t (h : getT r2.flds k = some t) => flds_ws r2 h
  generalize hks : bothK r1.flds r2.flds = ks at *
  generalize r1.flds = m1 at *
  generalize r2.flds = m2 at *
  have hn : ks.length ≤ 8589934592 := Hsm.out
  have Hst := hide (And.intro st (And.intro hrow hus))
  clear hb st hrow hus hks Hsm
  go_wp2_with fail
  go_loopw [5, 30] (fun s5 s30 wr => ZEI W0 ks (eqK m1 m2) s5 s30 wr) (fun _ s30 _ => ks.length - (intOf s30).toNat)
  case atStart => exact ⟨0, rfl, Nat.zero_le _, rfl, Below.refl _ _⟩
  case round =>
    obtain ⟨k, rfl, hk, rfl, hb⟩ := hrel
    by_cases hlt : k < ks.length
    · obtain ⟨va, vb, hcs, ha, hvb⟩ := Hst.out.2.2.at_ hlt
      have hsn : (ks.take (k + 1)).all (eqK m1 m2) = ((ks.take k).all (eqK m1 m2) && eqK m1 m2 ks[k]) := by
        rw [List.take_succ_eq_append_getElem hlt, List.all_append]
        simp
      obtain ⟨b, o, rfl, hF, hcell⟩ := rown_at Hst.out.2.1 hlt hcs
      have z0 := hcell 0 _ rfl
      have z1 := hcell 1 _ rfl
      have z2 := hcell 2 _ rfl
      rw [← (bcell hb).1 _ _ hF] at z0 z1 z2
      rw [Nat.add_zero] at z0
      generalize ks[k] = key at *
      obtain ⟨ball, hball⟩ : ∃ d, (ks.take k).all (eqK m1 m2) = d := ⟨_, rfl⟩
      rw [hball] at hsn ⊢
      have hki0 : (0 : Int) ≤ (k : Int) := Int.natCast_nonneg _
      have hki1 : (k : Int) < (ks.length : Int) := by omega
      have Ha := hide ha
      have Hvb := hide hvb
      have Hb := hide hb
      have Hlt := hide hlt
      clear hball hcs hcell ha hvb hF hb hk
      cases ball
      · rw [Bool.false_and] at hsn
        have Hsn := hide hsn
        obtain ⟨A1, n1, c1, rfl⟩ := Ha.out.form
        obtain ⟨A2, n2, c2, rfl⟩ := Hvb.out.form
        clear hsn
        go_wp2_with fail
        go_quiet (fail)
        go_wp2_with fail
        exact ⟨zei_next Hlt.out Hsn.out (below_drewN (Hb.out.alloc Hb.out.size _) _), by simp [intOf]; omega⟩
      rw [Bool.true_and] at hsn
      cases hg1 : getT m1 key with
      | none =>
        have e : eqK m1 m2 key = false := by unfold eqK; rw [hg1]
        have e3 : va = .slice none 0 0 := by have := Ha.out; rw [hg1] at this; exact this
        subst e3
        rw [e] at hsn
        have Hsn := hide hsn
        obtain ⟨A2, n2, c2, rfl⟩ := Hvb.out.form
        clear hsn hg1 e
        go_wp2_with fail
        go_quiet (fail)
        go_wp2_with fail
        exact ⟨zei_next Hlt.out Hsn.out (below_drewN (Hb.out.alloc Hb.out.size _) _), by simp [intOf]; omega⟩
      | some t1 =>
        have hr1 := Ha.out
        rw [hg1] at hr1
        obtain ⟨A1, c1, ccs1, rfl, _, _, hrow1, hv1⟩ := hr1
        cases hg2 : getT m2 key with
        | none =>
          have e : eqK m1 m2 key = false := by unfold eqK; rw [hg1, hg2]
          have e3 : vb = .slice none 0 0 := by have := Hvb.out; rw [hg2] at this; exact this
          subst e3
          rw [e] at hsn
          have Hsn := hide hsn
          clear hsn hg1 hg2 e hrow1 hv1
          go_wp2_with fail
          go_quiet (fail)
          go_wp2_with fail
          exact ⟨zei_next Hlt.out Hsn.out (below_drewN (Hb.out.alloc Hb.out.size _) _), by simp [intOf]; omega⟩
        | some t2 =>
          have hr2 := Hvb.out
          rw [hg2] at hr2
          obtain ⟨A2, c2, ccs2, rfl, _, _, hrow2, hv2⟩ := hr2
          have e : eqK m1 m2 key = T.eqv t1 t2 := by unfold eqK; rw [hg1, hg2]
          rw [e] at hsn
          have hq := fun (W : World) (hb : Below W0.heap.size W0 W) => specEqual_calls t1.toRV t2.toRV W _ _ (hv1.at_ hb) (hv2.at_ hb)
          rw [toRV_tree (Hw1.out _ _ hg1), toRV_tree (Hw2.out _ _ hg2)] at hq
          obtain ⟨d, hd⟩ : ∃ d, T.eqv t1 t2 = d := ⟨_, rfl⟩
          rw [hd] at hsn hq
          have Hsn := hide hsn
          have Hq := hide hq
          obtain ⟨x0, x1, x2, x3, xA, xn, xc, yA, yn, yc, rfl⟩ := hv1.form
          obtain ⟨u0, u1, u2, u3, uA, un, uc, vA, vn, vc, rfl⟩ := hv2.form
          obtain ⟨g1, o1, rfl, hg1l, k0, k1, k2, k3, k4, k5⟩ := row6_at hrow1 (k := 0) (by omega) rfl
          obtain ⟨g2, o2, rfl, hg2l, l0, l1, l2, l3, l4, l5⟩ := row6_at hrow2 (k := 0) (by omega) rfl
          rw [Nat.zero_mul, Nat.add_zero] at k0 k1 k2 k3 k4 k5 l0 l1 l2 l3 l4 l5
          have hs1 : g1 < W0.heap.size := hg1l
          have hs2 : g2 < W0.heap.size := hg2l
          have hsw := Hb.out.size
          have eb := (bcell Hb.out).1
          have hzs : ZS wr.heap.size g1 o1 g2 o2 c1 c2 (.int .i64 x0) (.int .i64 x1) (.float .f64 x2) (.string x3) (.slice xA xn xc) (.slice yA yn yc) (.int .i64 u0) (.int .i64 u1) (.float .f64 u2) (.string u3) (.slice uA un uc) (.slice vA vn vc) (wr.alloc (.cells #[.string key, .slice (some ⟨g1, o1, none⟩) 1 c1, .slice (some ⟨g2, o2, none⟩) 1 c2] 57)) := by
            have hB := Bk.new wr 57 #[.string key, .slice (some ⟨g1, o1, none⟩) 1 c1, .slice (some ⟨g2, o2, none⟩) 1 c2]
            have eb2 := (bcell ((Below.refl wr.heap.size wr).alloc (Nat.le_refl _) (.cells #[.string key, .slice (some ⟨g1, o1, none⟩) 1 c1, .slice (some ⟨g2, o2, none⟩) 1 c2] 57))).1
            exact ⟨hB.cell 1, hB.cell 2, ((eb2 _ _ (by omega)).trans (eb _ _ hs1)).trans k0, ((eb2 _ _ (by omega)).trans (eb _ _ hs1)).trans k1, ((eb2 _ _ (by omega)).trans (eb _ _ hs1)).trans k2, ((eb2 _ _ (by omega)).trans (eb _ _ hs1)).trans k3, ((eb2 _ _ (by omega)).trans (eb _ _ hs1)).trans k4, ((eb2 _ _ (by omega)).trans (eb _ _ hs1)).trans k5,
              ((eb2 _ _ (by omega)).trans (eb _ _ hs2)).trans l0, ((eb2 _ _ (by omega)).trans (eb _ _ hs2)).trans l1, ((eb2 _ _ (by omega)).trans (eb _ _ hs2)).trans l2, ((eb2 _ _ (by omega)).trans (eb _ _ hs2)).trans l3, ((eb2 _ _ (by omega)).trans (eb _ _ hs2)).trans l4, ((eb2 _ _ (by omega)).trans (eb _ _ hs2)).trans l5⟩
          have Hzs := hide hzs
          clear hsn hg1 hg2 e hrow1 hv1 hrow2 hv2 hq hd hzs eb k0 k1 k2 k3 k4 k5 l0 l1 l2 l3 l4 l5 hg1l hg2l
          go_upto_region 10 with fail
          have hzs := Hzs.out
          have hb2 : Below W0.heap.size W0 (wr.alloc (.cells #[.string key, .slice (some ⟨g1, o1, none⟩) 1 c1, .slice (some ⟨g2, o2, none⟩) 1 c2] 57)) := Hb.out.alloc Hb.out.size _
          have hgl : wr.heap.size < (wr.alloc (.cells #[.string key, .slice (some ⟨g1, o1, none⟩) 1 c1, .slice (some ⟨g2, o2, none⟩) 1 c2] 57)).heap.size := by simp
          generalize World.alloc _ _ = W7 at hzs hb2 hgl ⊢
          have hS0 := hzs.below (below_drew (Below.refl W7.heap.size W7)) hgl (by omega) (by omega)
          obtain ⟨S, hS⟩ : ∃ S, ZS wr.heap.size g1 o1 g2 o2 c1 c2 (.int .i64 x0) (.int .i64 x1) (.float .f64 x2) (.string x3) (.slice xA xn xc) (.slice yA yn yc) (.int .i64 u0) (.int .i64 u1) (.float .f64 u2) (.string u3) (.slice uA un uc) (.slice vA vn vc) = S := ⟨_, rfl⟩
          rw [hS] at hS0
          have Hk := hide (And.intro hzs hb2)
          clear hzs hb2 Hzs z0 z1 z2
          refine wp_region_head 23 S (by rfl) (by kernel_rfl) ?_
          refine HT.take 0 (v := ?_) rfl (by kernel_rfl) (fun _ _ _ h => h) (Or.inl ⟨by rfl, ?_⟩) (by assumption) ?_
          rotate_left
          · intro W hSw; rw [← hS] at hSw; obtain ⟨t1, t2, s0, s1, s2, s3, s4, s5, r0, r1, r2, r3, r4, r5⟩ := hSw; go_simp; with_reducible rfl
          simp only [Act.put, List.setIfInBounds_toArray, List.set_cons_zero, List.set_cons_succ]
          refine HT.take 1 (v := ?_) rfl (by kernel_rfl) (fun _ _ _ h => h) (Or.inl ⟨by rfl, ?_⟩) (by assumption) ?_
          rotate_left
          · intro W hSw; rw [← hS] at hSw; obtain ⟨t1, t2, s0, s1, s2, s3, s4, s5, r0, r1, r2, r3, r4, r5⟩ := hSw; go_simp; with_reducible rfl
          simp only [Act.put, List.setIfInBounds_toArray, List.set_cons_zero, List.set_cons_succ]
          refine HT.take 2 (v := ?_) rfl (by kernel_rfl) (fun _ _ _ h => h) (Or.inl ⟨by rfl, ?_⟩) (by assumption) ?_
          rotate_left
          · intro W hSw; rw [← hS] at hSw; obtain ⟨t1, t2, s0, s1, s2, s3, s4, s5, r0, r1, r2, r3, r4, r5⟩ := hSw; go_simp; with_reducible rfl
          simp only [Act.put, List.setIfInBounds_toArray, List.set_cons_zero, List.set_cons_succ]
          refine HT.take 3 (v := ?_) rfl (by kernel_rfl) (fun _ _ _ h => h) (Or.inl ⟨by rfl, ?_⟩) (by assumption) ?_
          rotate_left
          · intro W hSw; rw [← hS] at hSw; obtain ⟨t1, t2, s0, s1, s2, s3, s4, s5, r0, r1, r2, r3, r4, r5⟩ := hSw; go_simp; with_reducible rfl
          simp only [Act.put, List.setIfInBounds_toArray, List.set_cons_zero, List.set_cons_succ]
          refine HT.take 4 (v := ?_) rfl (by kernel_rfl) (fun _ _ _ h => h) (Or.inl ⟨by rfl, ?_⟩) (by assumption) ?_
          rotate_left
          · intro W hSw; rw [← hS] at hSw; obtain ⟨t1, t2, s0, s1, s2, s3, s4, s5, r0, r1, r2, r3, r4, r5⟩ := hSw; go_simp; with_reducible rfl
          simp only [Act.put, List.setIfInBounds_toArray, List.set_cons_zero, List.set_cons_succ]
          refine HT.take 5 (v := ?_) rfl (by kernel_rfl) (fun _ _ _ h => h) (Or.inl ⟨by rfl, ?_⟩) (by assumption) ?_
          rotate_left
          · intro W hSw; rw [← hS] at hSw; obtain ⟨t1, t2, s0, s1, s2, s3, s4, s5, r0, r1, r2, r3, r4, r5⟩ := hSw; go_simp; with_reducible rfl
          simp only [Act.put, List.setIfInBounds_toArray, List.set_cons_zero, List.set_cons_succ]
          refine HT.take 6 (v := ?_) rfl (by kernel_rfl) (fun _ _ _ h => h) (Or.inl ⟨by rfl, ?_⟩) (by assumption) ?_
          rotate_left
          · intro W hSw; rw [← hS] at hSw; obtain ⟨t1, t2, s0, s1, s2, s3, s4, s5, r0, r1, r2, r3, r4, r5⟩ := hSw; go_simp; with_reducible rfl
          simp only [Act.put, List.setIfInBounds_toArray, List.set_cons_zero, List.set_cons_succ]
          refine HT.take 7 (v := ?_) rfl (by kernel_rfl) (fun _ _ _ h => h) (Or.inl ⟨by rfl, ?_⟩) (by assumption) ?_
          rotate_left
          · intro W hSw; rw [← hS] at hSw; obtain ⟨t1, t2, s0, s1, s2, s3, s4, s5, r0, r1, r2, r3, r4, r5⟩ := hSw; go_simp; with_reducible rfl
          simp only [Act.put, List.setIfInBounds_toArray, List.set_cons_zero, List.set_cons_succ]
          refine HT.take 8 (v := ?_) rfl (by kernel_rfl) (fun _ _ _ h => h) (Or.inl ⟨by rfl, ?_⟩) (by assumption) ?_
          rotate_left
          · intro W hSw; rw [← hS] at hSw; obtain ⟨t1, t2, s0, s1, s2, s3, s4, s5, r0, r1, r2, r3, r4, r5⟩ := hSw; go_simp; with_reducible rfl
          simp only [Act.put, List.setIfInBounds_toArray, List.set_cons_zero, List.set_cons_succ]
          refine HT.take 9 (v := ?_) rfl (by kernel_rfl) (fun _ _ _ h => h) (Or.inl ⟨by rfl, ?_⟩) (by assumption) ?_
          rotate_left
          · intro W hSw; rw [← hS] at hSw; obtain ⟨t1, t2, s0, s1, s2, s3, s4, s5, r0, r1, r2, r3, r4, r5⟩ := hSw; go_simp; with_reducible rfl
          simp only [Act.put, List.setIfInBounds_toArray, List.set_cons_zero, List.set_cons_succ]
          refine HT.take 10 (v := ?_) rfl (by kernel_rfl) (fun _ _ _ h => h) (Or.inl ⟨by rfl, ?_⟩) (by assumption) ?_
          rotate_left
          · intro W hSw; rw [← hS] at hSw; obtain ⟨t1, t2, s0, s1, s2, s3, s4, s5, r0, r1, r2, r3, r4, r5⟩ := hSw; go_simp; with_reducible rfl
          simp only [Act.put, List.setIfInBounds_toArray, List.set_cons_zero, List.set_cons_succ]
          refine HT.take 11 (v := ?_) rfl (by kernel_rfl) (fun _ _ _ h => h) (Or.inl ⟨by rfl, ?_⟩) (by assumption) ?_
          rotate_left
          · intro W hSw; rw [← hS] at hSw; obtain ⟨t1, t2, s0, s1, s2, s3, s4, s5, r0, r1, r2, r3, r4, r5⟩ := hSw; go_simp; with_reducible rfl
          simp only [Act.put, List.setIfInBounds_toArray, List.set_cons_zero, List.set_cons_succ]
          refine HT.take 12 (v := ?_) rfl (by kernel_rfl) (fun _ _ _ h => h) (Or.inl ⟨by rfl, ?_⟩) (by assumption) ?_
          rotate_left
          · intro W hSw; rw [← hS] at hSw; obtain ⟨t1, t2, s0, s1, s2, s3, s4, s5, r0, r1, r2, r3, r4, r5⟩ := hSw; go_simp; with_reducible rfl
          simp only [Act.put, List.setIfInBounds_toArray, List.set_cons_zero, List.set_cons_succ]
          refine HT.take 13 (v := ?_) rfl (by kernel_rfl) (fun _ _ _ h => h) (Or.inl ⟨by rfl, ?_⟩) (by assumption) ?_
          rotate_left
          · intro W hSw; rw [← hS] at hSw; obtain ⟨t1, t2, s0, s1, s2, s3, s4, s5, r0, r1, r2, r3, r4, r5⟩ := hSw; go_simp; with_reducible rfl
          simp only [Act.put, List.setIfInBounds_toArray, List.set_cons_zero, List.set_cons_succ]
          refine HT.take 14 (v := ?_) rfl (by kernel_rfl) (fun _ _ _ h => h) (Or.inl ⟨by rfl, ?_⟩) (by assumption) ?_
          rotate_left
          · intro W hSw; rw [← hS] at hSw; obtain ⟨t1, t2, s0, s1, s2, s3, s4, s5, r0, r1, r2, r3, r4, r5⟩ := hSw; go_simp; with_reducible rfl
          simp only [Act.put, List.setIfInBounds_toArray, List.set_cons_zero, List.set_cons_succ]
          refine HT.take 15 (v := ?_) rfl (by kernel_rfl) (fun _ _ _ h => h) (Or.inl ⟨by rfl, ?_⟩) (by assumption) ?_
          rotate_left
          · intro W hSw; rw [← hS] at hSw; obtain ⟨t1, t2, s0, s1, s2, s3, s4, s5, r0, r1, r2, r3, r4, r5⟩ := hSw; go_simp; with_reducible rfl
          simp only [Act.put, List.setIfInBounds_toArray, List.set_cons_zero, List.set_cons_succ]
          refine HT.take 16 (v := ?_) rfl (by kernel_rfl) (fun _ _ _ h => h) (Or.inl ⟨by rfl, ?_⟩) (by assumption) ?_
          rotate_left
          · intro W hSw; rw [← hS] at hSw; obtain ⟨t1, t2, s0, s1, s2, s3, s4, s5, r0, r1, r2, r3, r4, r5⟩ := hSw; go_simp; with_reducible rfl
          simp only [Act.put, List.setIfInBounds_toArray, List.set_cons_zero, List.set_cons_succ]
          refine HT.take 17 (v := ?_) rfl (by kernel_rfl) (fun _ _ _ h => h) (Or.inl ⟨by rfl, ?_⟩) (by assumption) ?_
          rotate_left
          · intro W hSw; rw [← hS] at hSw; obtain ⟨t1, t2, s0, s1, s2, s3, s4, s5, r0, r1, r2, r3, r4, r5⟩ := hSw; go_simp; with_reducible rfl
          simp only [Act.put, List.setIfInBounds_toArray, List.set_cons_zero, List.set_cons_succ]
          refine HT.take 18 (v := ?_) rfl (by kernel_rfl) (fun _ _ _ h => h) (Or.inl ⟨by rfl, ?_⟩) (by assumption) ?_
          rotate_left
          · intro W hSw; rw [← hS] at hSw; obtain ⟨t1, t2, s0, s1, s2, s3, s4, s5, r0, r1, r2, r3, r4, r5⟩ := hSw; go_simp; with_reducible rfl
          simp only [Act.put, List.setIfInBounds_toArray, List.set_cons_zero, List.set_cons_succ]
          refine HT.take 19 (v := ?_) rfl (by kernel_rfl) (fun _ _ _ h => h) (Or.inl ⟨by rfl, ?_⟩) (by assumption) ?_
          rotate_left
          · intro W hSw; rw [← hS] at hSw; obtain ⟨t1, t2, s0, s1, s2, s3, s4, s5, r0, r1, r2, r3, r4, r5⟩ := hSw; go_simp; with_reducible rfl
          simp only [Act.put, List.setIfInBounds_toArray, List.set_cons_zero, List.set_cons_succ]
          refine HT.take 20 (v := ?_) rfl (by kernel_rfl) (fun _ _ _ h => h) (Or.inl ⟨by rfl, ?_⟩) (by assumption) ?_
          rotate_left
          · intro W hSw; rw [← hS] at hSw; obtain ⟨t1, t2, s0, s1, s2, s3, s4, s5, r0, r1, r2, r3, r4, r5⟩ := hSw; go_simp; with_reducible rfl
          simp only [Act.put, List.setIfInBounds_toArray, List.set_cons_zero, List.set_cons_succ]
          refine HT.take 21 (v := ?_) rfl (by kernel_rfl) (fun _ _ _ h => h) (Or.inl ⟨by rfl, ?_⟩) (by assumption) ?_
          rotate_left
          · intro W hSw; rw [← hS] at hSw; obtain ⟨t1, t2, s0, s1, s2, s3, s4, s5, r0, r1, r2, r3, r4, r5⟩ := hSw; go_simp; with_reducible rfl
          simp only [Act.put, List.setIfInBounds_toArray, List.set_cons_zero, List.set_cons_succ]
          refine HT.one 22 rfl (by kernel_rfl) (by rfl) (fun K hK => ?_)
          go_simp
          refine (Hq.out W7.drew (below_drew Hk.out.2)).mono ?_
          rintro e w9 ⟨rfl, hb9⟩
          have hb9' : Below W7.heap.size W7 w9 := below_drew' hb9
          go_simp
          refine hK.out _ _ (by rw [← hS]; exact Hk.out.1.below hb9' hgl (by omega) (by omega)) ?_
          clear hK
          refine HT.done (by kernel_rfl) ?_
          simp only [List.drop_succ_cons, List.drop_zero]
          have Hbz := hide (Hk.out.2.trans (hb9'.mono Hk.out.2.size))
          clear hb9 hb9' hS0 hS Hk
          cases d
          · go_wp2_with fail
            exact ⟨zei_next Hlt.out Hsn.out Hbz.out, by simp [intOf]; omega⟩
          · go_wp2_with fail
            exact ⟨zei_next Hlt.out Hsn.out Hbz.out, by simp [intOf]; omega⟩
    · have hke : k = ks.length := by omega
      subst hke
      rw [List.take_length]
      obtain ⟨d, hd⟩ : ∃ d, ks.all (eqK m1 m2) = d := ⟨_, rfl⟩
      rw [hd] at HEM ⊢
      have st := Hst.out.1.call hb
      obtain ⟨p0, p1, p2, p3, p4, p5⟩ := Bx.of st.a
      obtain ⟨q0, q1, q2, q3, q4, q5⟩ := Bx.of st.b
      have St := hide st
      clear hb hk hd st
      go_wp2_with fail
      refine (HEM.out _ St.out.below).mono ?_
      rintro e w8 ⟨rfl, hb⟩
      have st := St.out.call hb
      clear hb St p0 p1 p2 p3 p4 p5 q0 q1 q2 q3 q4 q5
      cases d
      · go_wp2
        go_ret
        exact ⟨rfl, st.below⟩
      · go_wp2
        go_ret
        exact ⟨rfl, st.below⟩

end Go.Proofs.Ytekaainjpddklaa
