/-
  The law FnElemsTransitive, of every three steps: it answers true and leaves what stood. No condition.
-/
import Derived.Test.YtekaainjpddklaaElemOk
set_option linter.unusedVariables false
set_option linter.unusedSimpArgs false
namespace Go.Proofs.Ytekaainjpddklaa
open Go.RowKit
attribute [local go_sem] run_store_float

/-- three structs, each a block of its own -/
structure B3 (w : World) (t : TypeId) (a b c : Array Value) (W : World) : Prop where
  below : Below w.heap.size w W
  a : Bk W w.heap.size t a
  b : Bk W (w.heap.size + 1) t b
  c : Bk W (w.heap.size + 2) t c
theorem B3.call {w W W' : World} {t : TypeId} {a b c : Array Value} (h : B3 w t a b c W) (hb : Below W.heap.size W W') : B3 w t a b c W' :=
  ⟨h.below.trans (hb.mono h.below.size), h.a.below hb h.a.lt, h.b.below hb h.b.lt, h.c.below hb h.c.lt⟩
theorem B3.made (w : World) (t : TypeId) (a b c : Array Value) : B3 w t a b c (((w.alloc (.cells a t)).alloc (.cells b t)).alloc (.cells c t)) := by
  have h := BB.made w t a b
  refine ⟨h.below.trans ((Below.refl _ _).alloc (by simp only [World.size_alloc]; omega) _), h.a.alloc _, h.b.alloc _, ?_⟩
  have := Bk.new ((w.alloc (.cells a t)).alloc (.cells b t)) t c
  simpa only [World.size_alloc] using this

set_option maxRecDepth 100000 in
set_option maxHeartbeats 8000000 in
theorem elemsLaw (r1 r2 r3 : REl) (w : World) (cs1 cs2 cs3 : List Value) (h1 : ElemAt (Old w) w r1 cs1) (h2 : ElemAt (Old w) w r2 cs2) (h3 : ElemAt (Old w) w r3 cs3) :
    Calls Try.prog 13 #[.agg cs1.toArray, .agg cs2.toArray, .agg cs3.toArray] w (LawPost w) := by
  have HZ1 := hide fun (W : World) (hb : Below w.heap.size w W) => zzFits13_calls r1 W cs1 (h1.at_ hb)
  have HO1 := hide fun (W : World) (hb : Below w.heap.size w W) => orderlyElem_calls r1 W cs1 (h1.at_ hb)
  have HZ2 := hide fun (W : World) (hb : Below w.heap.size w W) => zzFits13_calls r2 W cs2 (h2.at_ hb)
  have HO2 := hide fun (W : World) (hb : Below w.heap.size w W) => orderlyElem_calls r2 W cs2 (h2.at_ hb)
  have HZ3 := hide fun (W : World) (hb : Below w.heap.size w W) => zzFits13_calls r3 W cs3 (h3.at_ hb)
  have HO3 := hide fun (W : World) (hb : Below w.heap.size w W) => orderlyElem_calls r3 W cs3 (h3.at_ hb)
  have HE11 := hide fun (W : World) (hb : Below w.heap.size w W) => implEqualElems_calls r1 r1 W cs1 cs1 (h1.at_ hb) (h1.at_ hb)
  have HE12 := hide fun (W : World) (hb : Below w.heap.size w W) => implEqualElems_calls r1 r2 W cs1 cs2 (h1.at_ hb) (h2.at_ hb)
  have HE23 := hide fun (W : World) (hb : Below w.heap.size w W) => implEqualElems_calls r2 r3 W cs2 cs3 (h2.at_ hb) (h3.at_ hb)
  have HC12 := hide fun (W : World) (hb : Below w.heap.size w W) => implCompareElems_calls r1 r2 W cs1 cs2 (h1.at_ hb) (h2.at_ hb)
  have HC23 := hide fun (W : World) (hb : Below w.heap.size w W) => implCompareElems_calls r2 r3 W cs2 cs3 (h2.at_ hb) (h3.at_ hb)
  have HC13 := hide fun (W : World) (hb : Below w.heap.size w W) => implCompareElems_calls r1 r3 W cs1 cs3 (h1.at_ hb) (h3.at_ hb)
  generalize r1.elem = t1 at *
  generalize r2.elem = t2 at *
  generalize r3.elem = t3 at *
  obtain ⟨a0, a1, a2, a3, a4, a5, a6, a7, a8, a9, aa, ab, ac, ad, ae, af, ag, ah, ai, rfl⟩ := h1.form
  obtain ⟨b0, b1, b2, b3, b4, b5, b6, b7, b8, b9, ba, bb, bc, bd, be, bf, bg, bh, bi, rfl⟩ := h2.form
  obtain ⟨c0, c1, c2, c3, c4, c5, c6, c7, c8, c9, ca, cb, cc, cd, ce, cf, cg, ch, ci, rfl⟩ := h3.form
  clear h1 h2 h3
  go_enter Try.func13, Try.ntmps13
  go_wp2_with fail
  have st := B3.made w 76 #[.int .i64 a0, .string a1, .slice a2 a3 a4, .slice a5 a6 a7, .int .i64 a8, .int .i64 a9, .float .f64 aa, .string ab, .slice ac ad ae, .slice af ag ah, .int .i64 ai] #[.int .i64 b0, .string b1, .slice b2 b3 b4, .slice b5 b6 b7, .int .i64 b8, .int .i64 b9, .float .f64 ba, .string bb, .slice bc bd be, .slice bf bg bh, .int .i64 bi] #[.int .i64 c0, .string c1, .slice c2 c3 c4, .slice c5 c6 c7, .int .i64 c8, .int .i64 c9, .float .f64 ca, .string cb, .slice cc cd ce, .slice cf cg ch, .int .i64 ci]
  generalize World.alloc _ _ = W at st ⊢
  obtain ⟨p0, p1, p2, p3, p4, p5, p6, p7, p8, p9, p10⟩ := st.a.cells11
  obtain ⟨q0, q1, q2, q3, q4, q5, q6, q7, q8, q9, q10⟩ := st.b.cells11
  obtain ⟨s0, s1, s2, s3, s4, s5, s6, s7, s8, s9, s10⟩ := st.c.cells11
  go_wp2_with fail
  refine (HZ1.out _ st.below).mono ?_
  rintro e w1 ⟨⟨b, rfl⟩, hb⟩
  clear p0 p1 p2 p3 p4 p5 p6 p7 p8 p9 p10 q0 q1 q2 q3 q4 q5 q6 q7 q8 q9 q10 s0 s1 s2 s3 s4 s5 s6 s7 s8 s9 s10
  replace st := st.call hb
  clear hb
  obtain ⟨p0, p1, p2, p3, p4, p5, p6, p7, p8, p9, p10⟩ := st.a.cells11
  obtain ⟨q0, q1, q2, q3, q4, q5, q6, q7, q8, q9, q10⟩ := st.b.cells11
  obtain ⟨s0, s1, s2, s3, s4, s5, s6, s7, s8, s9, s10⟩ := st.c.cells11
  cases b
  · go_wp2
    go_ret
    exact ⟨rfl, st.below⟩
  · skip
    go_wp2_with fail
    refine (HZ2.out _ st.below).mono ?_
    rintro e w2 ⟨⟨b, rfl⟩, hb⟩
    clear p0 p1 p2 p3 p4 p5 p6 p7 p8 p9 p10 q0 q1 q2 q3 q4 q5 q6 q7 q8 q9 q10 s0 s1 s2 s3 s4 s5 s6 s7 s8 s9 s10
    replace st := st.call hb
    clear hb
    obtain ⟨p0, p1, p2, p3, p4, p5, p6, p7, p8, p9, p10⟩ := st.a.cells11
    obtain ⟨q0, q1, q2, q3, q4, q5, q6, q7, q8, q9, q10⟩ := st.b.cells11
    obtain ⟨s0, s1, s2, s3, s4, s5, s6, s7, s8, s9, s10⟩ := st.c.cells11
    cases b
    · go_wp2
      go_ret
      exact ⟨rfl, st.below⟩
    · skip
      go_wp2_with fail
      refine (HZ3.out _ st.below).mono ?_
      rintro e w3 ⟨⟨b, rfl⟩, hb⟩
      clear p0 p1 p2 p3 p4 p5 p6 p7 p8 p9 p10 q0 q1 q2 q3 q4 q5 q6 q7 q8 q9 q10 s0 s1 s2 s3 s4 s5 s6 s7 s8 s9 s10
      replace st := st.call hb
      clear hb
      obtain ⟨p0, p1, p2, p3, p4, p5, p6, p7, p8, p9, p10⟩ := st.a.cells11
      obtain ⟨q0, q1, q2, q3, q4, q5, q6, q7, q8, q9, q10⟩ := st.b.cells11
      obtain ⟨s0, s1, s2, s3, s4, s5, s6, s7, s8, s9, s10⟩ := st.c.cells11
      cases b
      · go_wp2
        go_ret
        exact ⟨rfl, st.below⟩
      · skip
        go_wp2_with fail
        refine (HO1.out _ st.below).mono ?_
        rintro e w4 ⟨b, rfl, ho1, hb⟩
        clear p0 p1 p2 p3 p4 p5 p6 p7 p8 p9 p10 q0 q1 q2 q3 q4 q5 q6 q7 q8 q9 q10 s0 s1 s2 s3 s4 s5 s6 s7 s8 s9 s10
        replace st := st.call hb
        clear hb
        have HOk1 := hide ho1
        clear ho1
        obtain ⟨p0, p1, p2, p3, p4, p5, p6, p7, p8, p9, p10⟩ := st.a.cells11
        obtain ⟨q0, q1, q2, q3, q4, q5, q6, q7, q8, q9, q10⟩ := st.b.cells11
        obtain ⟨s0, s1, s2, s3, s4, s5, s6, s7, s8, s9, s10⟩ := st.c.cells11
        cases b
        · go_wp2
          go_ret
          exact ⟨rfl, st.below⟩
        · skip
          go_wp2_with fail
          refine (HO2.out _ st.below).mono ?_
          rintro e w5 ⟨b, rfl, ho2, hb⟩
          clear p0 p1 p2 p3 p4 p5 p6 p7 p8 p9 p10 q0 q1 q2 q3 q4 q5 q6 q7 q8 q9 q10 s0 s1 s2 s3 s4 s5 s6 s7 s8 s9 s10
          replace st := st.call hb
          clear hb
          have HOk2 := hide ho2
          clear ho2
          obtain ⟨p0, p1, p2, p3, p4, p5, p6, p7, p8, p9, p10⟩ := st.a.cells11
          obtain ⟨q0, q1, q2, q3, q4, q5, q6, q7, q8, q9, q10⟩ := st.b.cells11
          obtain ⟨s0, s1, s2, s3, s4, s5, s6, s7, s8, s9, s10⟩ := st.c.cells11
          cases b
          · go_wp2
            go_ret
            exact ⟨rfl, st.below⟩
          · skip
            go_wp2_with fail
            refine (HO3.out _ st.below).mono ?_
            rintro e w6 ⟨b, rfl, ho3, hb⟩
            clear p0 p1 p2 p3 p4 p5 p6 p7 p8 p9 p10 q0 q1 q2 q3 q4 q5 q6 q7 q8 q9 q10 s0 s1 s2 s3 s4 s5 s6 s7 s8 s9 s10
            replace st := st.call hb
            clear hb
            have HOk3 := hide ho3
            clear ho3
            obtain ⟨p0, p1, p2, p3, p4, p5, p6, p7, p8, p9, p10⟩ := st.a.cells11
            obtain ⟨q0, q1, q2, q3, q4, q5, q6, q7, q8, q9, q10⟩ := st.b.cells11
            obtain ⟨s0, s1, s2, s3, s4, s5, s6, s7, s8, s9, s10⟩ := st.c.cells11
            cases b
            · go_wp2
              go_ret
              exact ⟨rfl, st.below⟩
            · skip
              have e1 := HOk1.out (by first | exact trivial | rfl)
              have e2 := HOk2.out (by first | exact trivial | rfl)
              have e3 := HOk3.out (by first | exact trivial | rfl)
              have HOk := hide (And.intro e1 (And.intro e2 e3))
              clear e1 e2 e3 HOk1 HOk2 HOk3
              have hs1 : E.eqv t1 t1 = true := (E.eqv_iff HOk.out.1 HOk.out.1).2 (E.cmp_self HOk.out.1)
              rw [hs1] at HE11
              clear hs1
              have htr := E.cmp_tr (a := t1) (b := t2) (c := t3) HOk.out.1 HOk.out.2.1 HOk.out.2.2
              have he12 := E.eqv_iff (a := t1) (b := t2) HOk.out.1 HOk.out.2.1
              have he23 := E.eqv_iff (a := t2) (b := t3) HOk.out.2.1 HOk.out.2.2
              generalize E.cmp t1 t2 = x at *
              generalize E.cmp t2 t3 = y at *
              generalize E.cmp t1 t3 = z at *
              generalize E.eqv t1 t2 = u at *
              generalize E.eqv t2 t3 = v at *
              have Htr := hide (And.intro htr (And.intro he12 he23))
              clear htr he12 he23
              go_wp2_with fail
              refine (HE11.out _ st.below).mono ?_
              rintro e w7 ⟨rfl, hb⟩
              clear p0 p1 p2 p3 p4 p5 p6 p7 p8 p9 p10 q0 q1 q2 q3 q4 q5 q6 q7 q8 q9 q10 s0 s1 s2 s3 s4 s5 s6 s7 s8 s9 s10
              replace st := st.call hb
              clear hb
              obtain ⟨p0, p1, p2, p3, p4, p5, p6, p7, p8, p9, p10⟩ := st.a.cells11
              obtain ⟨q0, q1, q2, q3, q4, q5, q6, q7, q8, q9, q10⟩ := st.b.cells11
              obtain ⟨s0, s1, s2, s3, s4, s5, s6, s7, s8, s9, s10⟩ := st.c.cells11
              go_wp2_with fail
              refine (HC12.out _ st.below).mono ?_
              rintro e w8 ⟨rfl, hb⟩
              clear p0 p1 p2 p3 p4 p5 p6 p7 p8 p9 p10 q0 q1 q2 q3 q4 q5 q6 q7 q8 q9 q10 s0 s1 s2 s3 s4 s5 s6 s7 s8 s9 s10
              replace st := st.call hb
              clear hb
              obtain ⟨p0, p1, p2, p3, p4, p5, p6, p7, p8, p9, p10⟩ := st.a.cells11
              obtain ⟨q0, q1, q2, q3, q4, q5, q6, q7, q8, q9, q10⟩ := st.b.cells11
              obtain ⟨s0, s1, s2, s3, s4, s5, s6, s7, s8, s9, s10⟩ := st.c.cells11
              by_cases hx : 0 < x
              · go_wp2
                go_ret
                exact ⟨rfl, st.below⟩
              · skip
                go_wp2_with fail
                refine (HC23.out _ st.below).mono ?_
                rintro e w9 ⟨rfl, hb⟩
                clear p0 p1 p2 p3 p4 p5 p6 p7 p8 p9 p10 q0 q1 q2 q3 q4 q5 q6 q7 q8 q9 q10 s0 s1 s2 s3 s4 s5 s6 s7 s8 s9 s10
                replace st := st.call hb
                clear hb
                obtain ⟨p0, p1, p2, p3, p4, p5, p6, p7, p8, p9, p10⟩ := st.a.cells11
                obtain ⟨q0, q1, q2, q3, q4, q5, q6, q7, q8, q9, q10⟩ := st.b.cells11
                obtain ⟨s0, s1, s2, s3, s4, s5, s6, s7, s8, s9, s10⟩ := st.c.cells11
                by_cases hy : 0 < y
                · go_wp2
                  go_ret
                  exact ⟨rfl, st.below⟩
                · skip
                  have hz : ¬ 0 < z := by
                    have h := Htr.out.1
                    unfold Tr at h
                    by_cases h0 : x = 0
                    · by_cases h1 : y = 0
                      · have := h.1 h0 h1; omega
                      · have := h.2 (by omega) (by omega) (.inr (by omega)); omega
                    · have := h.2 (by omega) (by omega) (.inl (by omega)); omega
                  go_wp2_with fail
                  refine (HC13.out _ st.below).mono ?_
                  rintro e w10 ⟨rfl, hb⟩
                  clear p0 p1 p2 p3 p4 p5 p6 p7 p8 p9 p10 q0 q1 q2 q3 q4 q5 q6 q7 q8 q9 q10 s0 s1 s2 s3 s4 s5 s6 s7 s8 s9 s10
                  replace st := st.call hb
                  clear hb
                  obtain ⟨p0, p1, p2, p3, p4, p5, p6, p7, p8, p9, p10⟩ := st.a.cells11
                  obtain ⟨q0, q1, q2, q3, q4, q5, q6, q7, q8, q9, q10⟩ := st.b.cells11
                  obtain ⟨s0, s1, s2, s3, s4, s5, s6, s7, s8, s9, s10⟩ := st.c.cells11
                  by_cases hz2 : z < 0
                  · go_wp2
                    go_ret
                    exact ⟨rfl, st.below⟩
                  · skip
                    have huv : u = true ∧ v = true := by
                      have h := Htr.out.1
                      unfold Tr at h
                      have hx0 : x = 0 := by
                        by_cases h0 : x = 0
                        · exact h0
                        · have := h.2 (by omega) (by omega) (.inl (by omega)); omega
                      have hy0 : y = 0 := by
                        by_cases h0 : y = 0
                        · exact h0
                        · have := h.2 (by omega) (by omega) (.inr (by omega)); omega
                      exact ⟨Htr.out.2.1.2 hx0, Htr.out.2.2.2 hy0⟩
                    obtain ⟨rfl, rfl⟩ := huv
                    go_wp2_with fail
                    refine (HE12.out _ st.below).mono ?_
                    rintro e w11 ⟨rfl, hb⟩
                    clear p0 p1 p2 p3 p4 p5 p6 p7 p8 p9 p10 q0 q1 q2 q3 q4 q5 q6 q7 q8 q9 q10 s0 s1 s2 s3 s4 s5 s6 s7 s8 s9 s10
                    replace st := st.call hb
                    clear hb
                    obtain ⟨p0, p1, p2, p3, p4, p5, p6, p7, p8, p9, p10⟩ := st.a.cells11
                    obtain ⟨q0, q1, q2, q3, q4, q5, q6, q7, q8, q9, q10⟩ := st.b.cells11
                    obtain ⟨s0, s1, s2, s3, s4, s5, s6, s7, s8, s9, s10⟩ := st.c.cells11
                    go_wp2_with fail
                    refine (HE23.out _ st.below).mono ?_
                    rintro e w12 ⟨rfl, hb⟩
                    clear p0 p1 p2 p3 p4 p5 p6 p7 p8 p9 p10 q0 q1 q2 q3 q4 q5 q6 q7 q8 q9 q10 s0 s1 s2 s3 s4 s5 s6 s7 s8 s9 s10
                    replace st := st.call hb
                    clear hb
                    obtain ⟨p0, p1, p2, p3, p4, p5, p6, p7, p8, p9, p10⟩ := st.a.cells11
                    obtain ⟨q0, q1, q2, q3, q4, q5, q6, q7, q8, q9, q10⟩ := st.b.cells11
                    obtain ⟨s0, s1, s2, s3, s4, s5, s6, s7, s8, s9, s10⟩ := st.c.cells11
                    go_wp2
                    go_ret
                    exact ⟨rfl, st.below⟩

end Go.Proofs.Ytekaainjpddklaa
