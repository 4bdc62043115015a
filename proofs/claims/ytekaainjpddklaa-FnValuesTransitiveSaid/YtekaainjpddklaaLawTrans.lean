/-
  The law FnValuesTransitive, of every three values: it answers true and leaves what stood. No condition.
-/
import Derived.Test.YtekaainjpddklaaLaw
set_option linter.unusedVariables false
set_option linter.unusedSimpArgs false
namespace Go.Proofs.Ytekaainjpddklaa
open Go.RowKit

set_option maxRecDepth 100000 in
set_option maxHeartbeats 4000000 in
theorem transLaw (r1 r2 r3 : RV) (w : World) (cs1 cs2 cs3 : List Value) (h1 : RVAt (Old w) w r1 cs1) (h2 : RVAt (Old w) w r2 cs2) (h3 : RVAt (Old w) w r3 cs3) :
    Calls Try.prog 10 #[.agg cs1.toArray, .agg cs2.toArray, .agg cs3.toArray] w (LawPost w) := by
  have HZ1 := hide fun (W : World) (hb : Below w.heap.size w W) => fits_calls r1 W cs1 (h1.at_ hb)
  have HO1 := hide fun (W : World) (hb : Below w.heap.size w W) => orderly_all r1 W cs1 (h1.at_ hb)
  have HZ2 := hide fun (W : World) (hb : Below w.heap.size w W) => fits_calls r2 W cs2 (h2.at_ hb)
  have HO2 := hide fun (W : World) (hb : Below w.heap.size w W) => orderly_all r2 W cs2 (h2.at_ hb)
  have HZ3 := hide fun (W : World) (hb : Below w.heap.size w W) => fits_calls r3 W cs3 (h3.at_ hb)
  have HO3 := hide fun (W : World) (hb : Below w.heap.size w W) => orderly_all r3 W cs3 (h3.at_ hb)
  have HE11 := hide fun (W : World) (hb : Below w.heap.size w W) => implEqual_calls r1 r1 W cs1 cs1 (h1.at_ hb) (h1.at_ hb)
  have HE22 := hide fun (W : World) (hb : Below w.heap.size w W) => implEqual_calls r2 r2 W cs2 cs2 (h2.at_ hb) (h2.at_ hb)
  have HE33 := hide fun (W : World) (hb : Below w.heap.size w W) => implEqual_calls r3 r3 W cs3 cs3 (h3.at_ hb) (h3.at_ hb)
  have HE12 := hide fun (W : World) (hb : Below w.heap.size w W) => implEqual_calls r1 r2 W cs1 cs2 (h1.at_ hb) (h2.at_ hb)
  have HE23 := hide fun (W : World) (hb : Below w.heap.size w W) => implEqual_calls r2 r3 W cs2 cs3 (h2.at_ hb) (h3.at_ hb)
  have HC12 := hide fun (W : World) (hb : Below w.heap.size w W) => implCompare_calls r1 r2 W cs1 cs2 (h1.at_ hb) (h2.at_ hb)
  have HC23 := hide fun (W : World) (hb : Below w.heap.size w W) => implCompare_calls r2 r3 W cs2 cs3 (h2.at_ hb) (h3.at_ hb)
  have HC13 := hide fun (W : World) (hb : Below w.heap.size w W) => implCompare_calls r1 r3 W cs1 cs3 (h1.at_ hb) (h3.at_ hb)
  generalize r1.tree = t1 at *
  generalize r2.tree = t2 at *
  generalize r3.tree = t3 at *
  obtain ⟨a0, a1, a2, a3, a4, a5, rfl⟩ := h1.six
  obtain ⟨b0, b1, b2, b3, b4, b5, rfl⟩ := h2.six
  obtain ⟨c0, c1, c2, c3, c4, c5, rfl⟩ := h3.six
  clear h1 h2 h3
  go_enter Try.func10, Try.ntmps10
  go_wp2_with fail
  have st := W3.made w 26 a0 a1 a2 a3 a4 a5 b0 b1 b2 b3 b4 b5 c0 c1 c2 c3 c4 c5
  generalize World.alloc _ _ = W at st ⊢
  obtain ⟨p0, p1, p2, p3, p4, p5⟩ := st.a
  obtain ⟨q0, q1, q2, q3, q4, q5⟩ := st.b
  obtain ⟨s0, s1, s2, s3, s4, s5⟩ := st.c
  go_wp2_with fail
  refine (HZ1.out _ st.below).mono ?_
  rintro e w1 ⟨⟨b, rfl⟩, hb⟩
  clear p0 p1 p2 p3 p4 p5 q0 q1 q2 q3 q4 q5 s0 s1 s2 s3 s4 s5
  replace st := st.call hb
  clear hb
  obtain ⟨p0, p1, p2, p3, p4, p5⟩ := st.a
  obtain ⟨q0, q1, q2, q3, q4, q5⟩ := st.b
  obtain ⟨s0, s1, s2, s3, s4, s5⟩ := st.c
  cases b
  · go_wp2
    go_ret
    exact ⟨rfl, st.below⟩
  · skip
    go_wp2_with fail
    refine (HZ2.out _ st.below).mono ?_
    rintro e w2 ⟨⟨b, rfl⟩, hb⟩
    clear p0 p1 p2 p3 p4 p5 q0 q1 q2 q3 q4 q5 s0 s1 s2 s3 s4 s5
    replace st := st.call hb
    clear hb
    obtain ⟨p0, p1, p2, p3, p4, p5⟩ := st.a
    obtain ⟨q0, q1, q2, q3, q4, q5⟩ := st.b
    obtain ⟨s0, s1, s2, s3, s4, s5⟩ := st.c
    cases b
    · go_wp2
      go_ret
      exact ⟨rfl, st.below⟩
    · skip
      go_wp2_with fail
      refine (HZ3.out _ st.below).mono ?_
      rintro e w3 ⟨⟨b, rfl⟩, hb⟩
      clear p0 p1 p2 p3 p4 p5 q0 q1 q2 q3 q4 q5 s0 s1 s2 s3 s4 s5
      replace st := st.call hb
      clear hb
      obtain ⟨p0, p1, p2, p3, p4, p5⟩ := st.a
      obtain ⟨q0, q1, q2, q3, q4, q5⟩ := st.b
      obtain ⟨s0, s1, s2, s3, s4, s5⟩ := st.c
      cases b
      · go_wp2
        go_ret
        exact ⟨rfl, st.below⟩
      · skip
        go_wp2_with fail
        refine (HO1.out _ st.below).mono ?_
        rintro e w4 ⟨b, rfl, ho1, hb⟩
        clear p0 p1 p2 p3 p4 p5 q0 q1 q2 q3 q4 q5 s0 s1 s2 s3 s4 s5
        replace st := st.call hb
        clear hb
        have HOk1 := hide ho1
        clear ho1
        obtain ⟨p0, p1, p2, p3, p4, p5⟩ := st.a
        obtain ⟨q0, q1, q2, q3, q4, q5⟩ := st.b
        obtain ⟨s0, s1, s2, s3, s4, s5⟩ := st.c
        cases b
        · go_wp2
          go_ret
          exact ⟨rfl, st.below⟩
        · skip
          go_wp2_with fail
          refine (HO2.out _ st.below).mono ?_
          rintro e w5 ⟨b, rfl, ho2, hb⟩
          clear p0 p1 p2 p3 p4 p5 q0 q1 q2 q3 q4 q5 s0 s1 s2 s3 s4 s5
          replace st := st.call hb
          clear hb
          have HOk2 := hide ho2
          clear ho2
          obtain ⟨p0, p1, p2, p3, p4, p5⟩ := st.a
          obtain ⟨q0, q1, q2, q3, q4, q5⟩ := st.b
          obtain ⟨s0, s1, s2, s3, s4, s5⟩ := st.c
          cases b
          · go_wp2
            go_ret
            exact ⟨rfl, st.below⟩
          · skip
            go_wp2_with fail
            refine (HO3.out _ st.below).mono ?_
            rintro e w6 ⟨b, rfl, ho3, hb⟩
            clear p0 p1 p2 p3 p4 p5 q0 q1 q2 q3 q4 q5 s0 s1 s2 s3 s4 s5
            replace st := st.call hb
            clear hb
            have HOk3 := hide ho3
            clear ho3
            obtain ⟨p0, p1, p2, p3, p4, p5⟩ := st.a
            obtain ⟨q0, q1, q2, q3, q4, q5⟩ := st.b
            obtain ⟨s0, s1, s2, s3, s4, s5⟩ := st.c
            cases b
            · go_wp2
              go_ret
              exact ⟨rfl, st.below⟩
            · skip
              have e1 := HOk1.out (by first | exact trivial | rfl)
              have e2 := HOk2.out (by first | exact trivial | rfl)
              have e3 := HOk3.out (by first | exact trivial | rfl)
              have HOk := hide (And.intro e1 (And.intro e2 e3))
              clear e1 e2 e3 HOk1 HOk2 HOk3
              have hs1 : T.eqv t1 t1 = true := (eqv_iff _ _ HOk.out.1 HOk.out.1).2 (cmp_self HOk.out.1)
              rw [hs1] at HE11
              clear hs1
              have hs2 : T.eqv t2 t2 = true := (eqv_iff _ _ HOk.out.2.1 HOk.out.2.1).2 (cmp_self HOk.out.2.1)
              rw [hs2] at HE22
              clear hs2
              have hs3 : T.eqv t3 t3 = true := (eqv_iff _ _ HOk.out.2.2 HOk.out.2.2).2 (cmp_self HOk.out.2.2)
              rw [hs3] at HE33
              clear hs3
              have htr := cmp_tr t1 t2 t3 HOk.out.1 HOk.out.2.1 HOk.out.2.2
              have he12 := eqv_iff t1 t2 HOk.out.1 HOk.out.2.1
              have he23 := eqv_iff t2 t3 HOk.out.2.1 HOk.out.2.2
              generalize T.cmp t1 t2 = x at *
              generalize T.cmp t2 t3 = y at *
              generalize T.cmp t1 t3 = z at *
              generalize T.eqv t1 t2 = u at *
              generalize T.eqv t2 t3 = v at *
              have Htr := hide (And.intro htr (And.intro he12 he23))
              clear htr he12 he23
              go_wp2_with fail
              refine (HE11.out _ st.below).mono ?_
              rintro e w7 ⟨rfl, hb⟩
              clear p0 p1 p2 p3 p4 p5 q0 q1 q2 q3 q4 q5 s0 s1 s2 s3 s4 s5
              replace st := st.call hb
              clear hb
              obtain ⟨p0, p1, p2, p3, p4, p5⟩ := st.a
              obtain ⟨q0, q1, q2, q3, q4, q5⟩ := st.b
              obtain ⟨s0, s1, s2, s3, s4, s5⟩ := st.c
              go_wp2_with fail
              refine (HE22.out _ st.below).mono ?_
              rintro e w8 ⟨rfl, hb⟩
              clear p0 p1 p2 p3 p4 p5 q0 q1 q2 q3 q4 q5 s0 s1 s2 s3 s4 s5
              replace st := st.call hb
              clear hb
              obtain ⟨p0, p1, p2, p3, p4, p5⟩ := st.a
              obtain ⟨q0, q1, q2, q3, q4, q5⟩ := st.b
              obtain ⟨s0, s1, s2, s3, s4, s5⟩ := st.c
              go_wp2_with fail
              refine (HE33.out _ st.below).mono ?_
              rintro e w9 ⟨rfl, hb⟩
              clear p0 p1 p2 p3 p4 p5 q0 q1 q2 q3 q4 q5 s0 s1 s2 s3 s4 s5
              replace st := st.call hb
              clear hb
              obtain ⟨p0, p1, p2, p3, p4, p5⟩ := st.a
              obtain ⟨q0, q1, q2, q3, q4, q5⟩ := st.b
              obtain ⟨s0, s1, s2, s3, s4, s5⟩ := st.c
              go_wp2_with fail
              refine (HC12.out _ st.below).mono ?_
              rintro e w10 ⟨rfl, hb⟩
              clear p0 p1 p2 p3 p4 p5 q0 q1 q2 q3 q4 q5 s0 s1 s2 s3 s4 s5
              replace st := st.call hb
              clear hb
              obtain ⟨p0, p1, p2, p3, p4, p5⟩ := st.a
              obtain ⟨q0, q1, q2, q3, q4, q5⟩ := st.b
              obtain ⟨s0, s1, s2, s3, s4, s5⟩ := st.c
              by_cases hx : 0 < x
              · go_wp2
                go_ret
                exact ⟨rfl, st.below⟩
              · skip
                go_wp2_with fail
                refine (HC23.out _ st.below).mono ?_
                rintro e w11 ⟨rfl, hb⟩
                clear p0 p1 p2 p3 p4 p5 q0 q1 q2 q3 q4 q5 s0 s1 s2 s3 s4 s5
                replace st := st.call hb
                clear hb
                obtain ⟨p0, p1, p2, p3, p4, p5⟩ := st.a
                obtain ⟨q0, q1, q2, q3, q4, q5⟩ := st.b
                obtain ⟨s0, s1, s2, s3, s4, s5⟩ := st.c
                by_cases hy : 0 < y
                · go_wp2
                  go_ret
                  exact ⟨rfl, st.below⟩
                · skip
                  have hz : ¬ 0 < z := by
                    have h := Htr.out.1
                    unfold Tr at h
                    by_cases h0 : x = 0
                    · by_cases h1 : y = 0
                      · have := h.1 h0 h1; omega
                      · have := h.2 (by omega) (by omega) (.inr (by omega)); omega
                    · have := h.2 (by omega) (by omega) (.inl (by omega)); omega
                  go_wp2_with fail
                  refine (HC13.out _ st.below).mono ?_
                  rintro e w12 ⟨rfl, hb⟩
                  clear p0 p1 p2 p3 p4 p5 q0 q1 q2 q3 q4 q5 s0 s1 s2 s3 s4 s5
                  replace st := st.call hb
                  clear hb
                  obtain ⟨p0, p1, p2, p3, p4, p5⟩ := st.a
                  obtain ⟨q0, q1, q2, q3, q4, q5⟩ := st.b
                  obtain ⟨s0, s1, s2, s3, s4, s5⟩ := st.c
                  go_wp2_with fail
                  refine (HC13.out _ st.below).mono ?_
                  rintro e w13 ⟨rfl, hb⟩
                  clear p0 p1 p2 p3 p4 p5 q0 q1 q2 q3 q4 q5 s0 s1 s2 s3 s4 s5
                  replace st := st.call hb
                  clear hb
                  obtain ⟨p0, p1, p2, p3, p4, p5⟩ := st.a
                  obtain ⟨q0, q1, q2, q3, q4, q5⟩ := st.b
                  obtain ⟨s0, s1, s2, s3, s4, s5⟩ := st.c
                  by_cases hz2 : z < 0
                  · go_wp2
                    go_ret
                    exact ⟨rfl, st.below⟩
                  · skip
                    have huv : u = true ∧ v = true := by
                      have h := Htr.out.1
                      unfold Tr at h
                      have hx0 : x = 0 := by
                        by_cases h0 : x = 0
                        · exact h0
                        · have := h.2 (by omega) (by omega) (.inl (by omega)); omega
                      have hy0 : y = 0 := by
                        by_cases h0 : y = 0
                        · exact h0
                        · have := h.2 (by omega) (by omega) (.inr (by omega)); omega
                      exact ⟨Htr.out.2.1.2 hx0, Htr.out.2.2.2 hy0⟩
                    obtain ⟨rfl, rfl⟩ := huv
                    go_wp2_with fail
                    refine (HE12.out _ st.below).mono ?_
                    rintro e w14 ⟨rfl, hb⟩
                    clear p0 p1 p2 p3 p4 p5 q0 q1 q2 q3 q4 q5 s0 s1 s2 s3 s4 s5
                    replace st := st.call hb
                    clear hb
                    obtain ⟨p0, p1, p2, p3, p4, p5⟩ := st.a
                    obtain ⟨q0, q1, q2, q3, q4, q5⟩ := st.b
                    obtain ⟨s0, s1, s2, s3, s4, s5⟩ := st.c
                    go_wp2_with fail
                    refine (HE23.out _ st.below).mono ?_
                    rintro e w15 ⟨rfl, hb⟩
                    clear p0 p1 p2 p3 p4 p5 q0 q1 q2 q3 q4 q5 s0 s1 s2 s3 s4 s5
                    replace st := st.call hb
                    clear hb
                    obtain ⟨p0, p1, p2, p3, p4, p5⟩ := st.a
                    obtain ⟨q0, q1, q2, q3, q4, q5⟩ := st.b
                    obtain ⟨s0, s1, s2, s3, s4, s5⟩ := st.c
                    go_wp2
                    go_ret
                    exact ⟨rfl, st.below⟩

end Go.Proofs.Ytekaainjpddklaa
