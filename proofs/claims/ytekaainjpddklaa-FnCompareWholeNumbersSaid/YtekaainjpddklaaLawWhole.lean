/-
  The law FnCompareWholeNumbers, of every two values: it answers true and leaves what stood. No condition.
-/
import Derived.Test.YtekaainjpddklaaFree
import Derived.Test.YtekaainjpddklaaSpecV
set_option linter.unusedVariables false
set_option linter.unusedSimpArgs false
namespace Go.Proofs.Ytekaainjpddklaa
open Go.RowKit

set_option maxRecDepth 100000 in
set_option maxHeartbeats 4000000 in
theorem wholeLaw (r1 r2 : RV) (w : World) (cs1 cs2 : List Value) (h1 : RVAt (Old w) w r1 cs1) (h2 : RVAt (Old w) w r2 cs2) :
    Calls Try.prog 9 #[.agg cs1.toArray, .agg cs2.toArray] w (LawPost w) := by
  have HZ1 := hide fun (W : World) (hb : Below w.heap.size w W) => fits_calls r1 W cs1 (h1.at_ hb)
  have HF1 := hide fun (W : World) (hb : Below w.heap.size w W) => free_all r1 W cs1 (h1.at_ hb)
  have HZ2 := hide fun (W : World) (hb : Below w.heap.size w W) => fits_calls r2 W cs2 (h2.at_ hb)
  have HF2 := hide fun (W : World) (hb : Below w.heap.size w W) => free_all r2 W cs2 (h2.at_ hb)
  have HC := hide fun (W : World) (hb : Below w.heap.size w W) => implCompare_calls r1 r2 W cs1 cs2 (h1.at_ hb) (h2.at_ hb)
  have HSC := hide fun (W : World) (hb : Below w.heap.size w W) => specCompare_calls r1 r2 W cs1 cs2 (h1.at_ hb) (h2.at_ hb)
  have HE := hide fun (W : World) (hb : Below w.heap.size w W) => implEqual_calls r1 r2 W cs1 cs2 (h1.at_ hb) (h2.at_ hb)
  have HSE := hide fun (W : World) (hb : Below w.heap.size w W) => specEqual_calls r1 r2 W cs1 cs2 (h1.at_ hb) (h2.at_ hb)
  generalize T.cmp r1.tree r2.tree = x at *
  generalize T.eqv r1.tree r2.tree = u at *
  obtain ⟨a0, a1, a2, a3, a4, a5, rfl⟩ := h1.six
  obtain ⟨b0, b1, b2, b3, b4, b5, rfl⟩ := h2.six
  clear h1 h2
  go_enter Try.func9, Try.ntmps9
  go_wp2_with fail
  have st := W2.made w 26 a0 a1 a2 a3 a4 a5 b0 b1 b2 b3 b4 b5
  generalize World.alloc _ _ = W at st ⊢
  obtain ⟨p0, p1, p2, p3, p4, p5⟩ := st.a
  obtain ⟨q0, q1, q2, q3, q4, q5⟩ := st.b
  go_wp2_with fail
  refine (HZ1.out _ st.below).mono ?_
  rintro e w1 ⟨⟨b, rfl⟩, hb⟩
  clear p0 p1 p2 p3 p4 p5 q0 q1 q2 q3 q4 q5
  replace st := st.call hb
  clear hb
  obtain ⟨p0, p1, p2, p3, p4, p5⟩ := st.a
  obtain ⟨q0, q1, q2, q3, q4, q5⟩ := st.b
  cases b
  · go_wp2
    go_ret
    exact ⟨rfl, st.below⟩
  · skip
    go_wp2_with fail
    refine (HZ2.out _ st.below).mono ?_
    rintro e w2 ⟨⟨b, rfl⟩, hb⟩
    clear p0 p1 p2 p3 p4 p5 q0 q1 q2 q3 q4 q5
    replace st := st.call hb
    clear hb
    obtain ⟨p0, p1, p2, p3, p4, p5⟩ := st.a
    obtain ⟨q0, q1, q2, q3, q4, q5⟩ := st.b
    cases b
    · go_wp2
      go_ret
      exact ⟨rfl, st.below⟩
    · skip
      go_wp2_with fail
      refine (HF1.out _ st.below).mono ?_
      rintro e w3 ⟨⟨b, rfl⟩, hb⟩
      clear p0 p1 p2 p3 p4 p5 q0 q1 q2 q3 q4 q5
      replace st := st.call hb
      clear hb
      obtain ⟨p0, p1, p2, p3, p4, p5⟩ := st.a
      obtain ⟨q0, q1, q2, q3, q4, q5⟩ := st.b
      cases b
      · go_wp2
        go_ret
        exact ⟨rfl, st.below⟩
      · skip
        go_wp2_with fail
        refine (HF2.out _ st.below).mono ?_
        rintro e w4 ⟨⟨b, rfl⟩, hb⟩
        clear p0 p1 p2 p3 p4 p5 q0 q1 q2 q3 q4 q5
        replace st := st.call hb
        clear hb
        obtain ⟨p0, p1, p2, p3, p4, p5⟩ := st.a
        obtain ⟨q0, q1, q2, q3, q4, q5⟩ := st.b
        cases b
        · go_wp2
          go_ret
          exact ⟨rfl, st.below⟩
        · skip
          go_wp2_with fail
          have hS0 : W2 w a0 a1 a2 a3 a4 a5 b0 b1 b2 b3 b4 b5 w4.drew := st.drewN 1
          generalize hS : W2 w a0 a1 a2 a3 a4 a5 b0 b1 b2 b3 b4 b5 = S at hS0
          clear p0 p1 p2 p3 p4 p5 q0 q1 q2 q3 q4 q5
          clear st
          refine wp_region_head 15 S (by rfl) (by kernel_rfl) ?_
          refine HT.take 0 (v := ?_) rfl (by kernel_rfl) (fun _ _ _ h => h) (Or.inl ⟨by rfl, ?_⟩) (by assumption) ?_
          rotate_left
          · intro W hSw; rw [← hS] at hSw; obtain ⟨_, _, ⟨s0, s1, s2, s3, s4, s5⟩, ⟨t0, t1, t2, t3, t4, t5⟩⟩ := hSw; go_simp; with_reducible rfl
          simp only [Act.put, List.setIfInBounds_toArray, List.set_cons_zero, List.set_cons_succ]
          refine HT.take 1 (v := ?_) rfl (by kernel_rfl) (fun _ _ _ h => h) (Or.inl ⟨by rfl, ?_⟩) (by assumption) ?_
          rotate_left
          · intro W hSw; rw [← hS] at hSw; obtain ⟨_, _, ⟨s0, s1, s2, s3, s4, s5⟩, ⟨t0, t1, t2, t3, t4, t5⟩⟩ := hSw; go_simp; with_reducible rfl
          simp only [Act.put, List.setIfInBounds_toArray, List.set_cons_zero, List.set_cons_succ]
          refine HT.take 3 (v := ?_) rfl (by kernel_rfl) (fun _ _ _ h => h) (Or.inl ⟨by rfl, ?_⟩) (by assumption) ?_
          rotate_left
          · intro W hSw; rw [← hS] at hSw; obtain ⟨_, _, ⟨s0, s1, s2, s3, s4, s5⟩, ⟨t0, t1, t2, t3, t4, t5⟩⟩ := hSw; go_simp; with_reducible rfl
          simp only [Act.put, List.setIfInBounds_toArray, List.set_cons_zero, List.set_cons_succ]
          refine HT.take 4 (v := ?_) rfl (by kernel_rfl) (fun _ _ _ h => h) (Or.inl ⟨by rfl, ?_⟩) (by assumption) ?_
          rotate_left
          · intro W hSw; rw [← hS] at hSw; obtain ⟨_, _, ⟨s0, s1, s2, s3, s4, s5⟩, ⟨t0, t1, t2, t3, t4, t5⟩⟩ := hSw; go_simp; with_reducible rfl
          simp only [Act.put, List.setIfInBounds_toArray, List.set_cons_zero, List.set_cons_succ]
          have st0 : W2 w a0 a1 a2 a3 a4 a5 b0 b1 b2 b3 b4 b5 w4.drew := by rw [hS]; exact hS0
          refine HT.one 2 rfl (by kernel_rfl) (by rfl) (fun K hK => ?_)
          go_simp
          refine (HC.out _ st0.below).mono ?_
          rintro e stAw ⟨rfl, hb⟩
          have stA := st0.call hb
          clear hb
          go_simp
          refine hK.out _ _ (by rw [← hS]; exact stA) ?_
          clear hK
          clear hS0
          have hS0 : S stAw := by rw [← hS]; exact stA
          refine HT.one 5 rfl (by kernel_rfl) (by rfl) (fun K hK => ?_)
          go_simp
          refine (HSC.out _ stA.below).mono ?_
          rintro e stBw ⟨rfl, hb⟩
          have stB := stA.call hb
          clear hb
          go_simp
          refine hK.out _ _ (by rw [← hS]; exact stB) ?_
          clear hK
          clear hS0
          have hS0 : S stBw := by rw [← hS]; exact stB
          refine HT.take 6 (v := ?_) rfl (by kernel_rfl) (fun _ _ _ h => h) (Or.inl ⟨by rfl, ?_⟩) (by assumption) ?_
          rotate_left
          · intro W hSw; rw [← hS] at hSw; obtain ⟨_, _, ⟨s0, s1, s2, s3, s4, s5⟩, ⟨t0, t1, t2, t3, t4, t5⟩⟩ := hSw; go_simp; with_reducible rfl
          simp only [Act.put, List.setIfInBounds_toArray, List.set_cons_zero, List.set_cons_succ]
          refine HT.take 7 (v := ?_) rfl (by kernel_rfl) (fun _ _ _ h => h) (Or.inl ⟨by rfl, ?_⟩) (by assumption) ?_
          rotate_left
          · intro W hSw; rw [← hS] at hSw; obtain ⟨_, _, ⟨s0, s1, s2, s3, s4, s5⟩, ⟨t0, t1, t2, t3, t4, t5⟩⟩ := hSw; go_simp; with_reducible rfl
          simp only [Act.put, List.setIfInBounds_toArray, List.set_cons_zero, List.set_cons_succ]
          refine HT.take 8 (v := ?_) rfl (by kernel_rfl) (fun _ _ _ h => h) (Or.inl ⟨by rfl, ?_⟩) (by assumption) ?_
          rotate_left
          · intro W hSw; rw [← hS] at hSw; obtain ⟨_, _, ⟨s0, s1, s2, s3, s4, s5⟩, ⟨t0, t1, t2, t3, t4, t5⟩⟩ := hSw; go_simp; with_reducible rfl
          simp only [Act.put, List.setIfInBounds_toArray, List.set_cons_zero, List.set_cons_succ]
          refine HT.take 9 (v := ?_) rfl (by kernel_rfl) (fun _ _ _ h => h) (Or.inl ⟨by rfl, ?_⟩) (by assumption) ?_
          rotate_left
          · intro W hSw; rw [← hS] at hSw; obtain ⟨_, _, ⟨s0, s1, s2, s3, s4, s5⟩, ⟨t0, t1, t2, t3, t4, t5⟩⟩ := hSw; go_simp; with_reducible rfl
          simp only [Act.put, List.setIfInBounds_toArray, List.set_cons_zero, List.set_cons_succ]
          refine HT.take 11 (v := ?_) rfl (by kernel_rfl) (fun _ _ _ h => h) (Or.inl ⟨by rfl, ?_⟩) (by assumption) ?_
          rotate_left
          · intro W hSw; rw [← hS] at hSw; obtain ⟨_, _, ⟨s0, s1, s2, s3, s4, s5⟩, ⟨t0, t1, t2, t3, t4, t5⟩⟩ := hSw; go_simp; with_reducible rfl
          simp only [Act.put, List.setIfInBounds_toArray, List.set_cons_zero, List.set_cons_succ]
          refine HT.take 12 (v := ?_) rfl (by kernel_rfl) (fun _ _ _ h => h) (Or.inl ⟨by rfl, ?_⟩) (by assumption) ?_
          rotate_left
          · intro W hSw; rw [← hS] at hSw; obtain ⟨_, _, ⟨s0, s1, s2, s3, s4, s5⟩, ⟨t0, t1, t2, t3, t4, t5⟩⟩ := hSw; go_simp; with_reducible rfl
          simp only [Act.put, List.setIfInBounds_toArray, List.set_cons_zero, List.set_cons_succ]
          refine HT.one 10 rfl (by kernel_rfl) (by rfl) (fun K hK => ?_)
          go_simp
          refine (HE.out _ stB.below).mono ?_
          rintro e stCw ⟨rfl, hb⟩
          have stC := stB.call hb
          clear hb
          go_simp
          refine hK.out _ _ (by rw [← hS]; exact stC) ?_
          clear hK
          clear hS0
          have hS0 : S stCw := by rw [← hS]; exact stC
          refine HT.one 13 rfl (by kernel_rfl) (by rfl) (fun K hK => ?_)
          go_simp
          refine (HSE.out _ stC.below).mono ?_
          rintro e stDw ⟨rfl, hb⟩
          have stD := stC.call hb
          clear hb
          go_simp
          refine hK.out _ _ (by rw [← hS]; exact stD) ?_
          clear hK
          clear hS0
          have hS0 : S stDw := by rw [← hS]; exact stD
          refine HT.take 14 (v := ?_) rfl (by kernel_rfl) (fun _ _ _ h => h) (Or.inl ⟨by rfl, ?_⟩) (by assumption) ?_
          rotate_left
          · intro W hSw; rw [← hS] at hSw; obtain ⟨_, _, ⟨s0, s1, s2, s3, s4, s5⟩, ⟨t0, t1, t2, t3, t4, t5⟩⟩ := hSw; go_simp; with_reducible rfl
          simp only [Act.put, List.setIfInBounds_toArray, List.set_cons_zero, List.set_cons_succ]
          refine HT.done (by kernel_rfl) ?_
          simp only [List.drop_succ_cons, List.drop_zero]
          clear hS0 hS
          go_wp2
          go_ret
          exact ⟨rfl, stD.below⟩

end Go.Proofs.Ytekaainjpddklaa
