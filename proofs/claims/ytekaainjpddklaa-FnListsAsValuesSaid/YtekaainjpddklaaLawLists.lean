/-
  The law FnListsAsValues, of every two values: it answers true and leaves what stood.
-/
import Derived.Test.YtekaainjpddklaaLists5
set_option linter.unusedVariables false
set_option linter.unusedSimpArgs false
namespace Go.Proofs.Ytekaainjpddklaa
open Go.RowKit
attribute [local go_sem] run_store_float

set_option maxRecDepth 100000 in
set_option maxHeartbeats 8000000 in
theorem listsLaw (r1 r2 : RV) (w : World) (cs1 cs2 : List Value) (h1 : RVAt (Old w) w r1 cs1) (h2 : RVAt (Old w) w r2 cs2) :
    Calls Try.prog 12 #[.agg cs1.toArray, .agg cs2.toArray] w (LawPost w) := by
  have HZ1 := hide fun (W : World) (hb : Below w.heap.size w W) => fits_calls r1 W cs1 (h1.at_ hb)
  have HZ2 := hide fun (W : World) (hb : Below w.heap.size w W) => fits_calls r2 W cs2 (h2.at_ hb)
  have HCM := hide fun (W : World) (hb : Below w.heap.size w W) => implCompareMaps_calls r1 r2 W cs1 cs2 (h1.at_ hb) (h2.at_ hb)
  have HEM := hide fun (W : World) (hb : Below w.heap.size w W) => implEqualMaps_calls r1 r2 W cs1 cs2 (h1.at_ hb) (h2.at_ hb)
  have HES := hide fun (W : World) (hb : Below w.heap.size w W) => implEqualMaps_calls r1 r1 W cs1 cs1 (h1.at_ hb) (h1.at_ hb)
  have H1 := h1
  have H2 := h2
  cases h1 with
  | @mk k1 n1 f1 s1 keys1 l1 KA1 LA1 kc1 lc1 xs1 g1 g2 g3 g4 g5 g6 g7 g8 g9 g10 g11 g12 g13 g14 =>
  clear g1 g2 g3 g4 g5 g6 g7 g8 g9 g10 g11 g12 g13 g14
  cases h2 with
  | @mk k2 n2 f2 s2 keys2 l2 KA2 LA2 kc2 lc2 xs2 g1 g2 g3 g4 g5 g6 g7 g8 g9 g10 g11 g12 g13 g14 =>
  clear g1 g2 g3 g4 g5 g6 g7 g8 g9 g10 g11 g12 g13 g14
  have HO1 := hide fun (W : World) (hb : Below w.heap.size w W) => orderlyValues_calls l1 LA1 lc1 W (H1.listOf.at_ hb)
  have HO2 := hide fun (W : World) (hb : Below w.heap.size w W) => orderlyValues_calls l2 LA2 lc2 W (H2.listOf.at_ hb)
  have HCL := hide fun (W : World) (hb : Below w.heap.size w W) => implCompareLists_calls l1 l2 LA1 LA2 lc1 lc2 W (H1.listOf.at_ hb) (H2.listOf.at_ hb)
  have HEL := hide fun (W : World) (hb : Below w.heap.size w W) => implEqualLists_calls l1 l2 LA1 LA2 lc1 lc2 W (H1.listOf.at_ hb) (H2.listOf.at_ hb)
  have HCV := fun (W : World) (hb : Below w.heap.size w W) => implCompare_calls (LRV l1) (LRV l2) W _ _ (H1.listOf.at_ hb) (H2.listOf.at_ hb)
  have HEV := fun (W : World) (hb : Below w.heap.size w W) => implEqual_calls (LRV l1) (LRV l2) W _ _ (H1.listOf.at_ hb) (H2.listOf.at_ hb)
  have HCF := fun (W : World) (hb : Below w.heap.size w W) => implCompare_calls (FRV keys1 l1) (FRV keys2 l2) W _ _ (H1.fldsOf.at_ hb) (H2.fldsOf.at_ hb)
  have HEF := fun (W : World) (hb : Below w.heap.size w W) => implEqual_calls (FRV keys1 l1) (FRV keys2 l2) W _ _ (H1.fldsOf.at_ hb) (H2.fldsOf.at_ hb)
  simp only [LRV.tree, FRV.tree keys1 l1 k1 n1 f1 s1, FRV.tree keys2 l2 k2 n2 f2 s2, T.cmp, T.eqv] at HCV HEV HCF HEF
  have HF : Hid ((∀ i r, i < l1.length → l1[i]? = some r → r.tree.Ok) → T.eqvM (RV.mk k1 n1 f1 s1 keys1 l1).flds (RV.mk k1 n1 f1 s1 keys1 l1).flds = true) := hide flds_ok
  obtain ⟨x1, hx1⟩ : ∃ x, T.cmpL (l1.map RV.tree) (l2.map RV.tree) = x := ⟨_, rfl⟩
  obtain ⟨u1, hu1⟩ : ∃ x, T.eqvL (l1.map RV.tree) (l2.map RV.tree) = x := ⟨_, rfl⟩
  obtain ⟨x2, hx2⟩ : ∃ x, T.cmpM (RV.mk k1 n1 f1 s1 keys1 l1).flds (RV.mk k2 n2 f2 s2 keys2 l2).flds = x := ⟨_, rfl⟩
  obtain ⟨u2, hu2⟩ : ∃ x, T.eqvM (RV.mk k1 n1 f1 s1 keys1 l1).flds (RV.mk k2 n2 f2 s2 keys2 l2).flds = x := ⟨_, rfl⟩
  obtain ⟨u3, hu3⟩ : ∃ x, T.eqvM (RV.mk k1 n1 f1 s1 keys1 l1).flds (RV.mk k1 n1 f1 s1 keys1 l1).flds = x := ⟨_, rfl⟩
  rw [hx1] at HCV HCL
  rw [hu1] at HEV HEL
  rw [hx2] at HCF HCM
  rw [hu2] at HEF HEM
  rw [hu3] at HF HES
  have HCV := hide HCV
  have HEV := hide HEV
  have HCF := hide HCF
  have HEF := hide HEF
  clear H1 H2 hx1 hu1 hx2 hu2 hu3
  have hsl : ∀ A : Option Addr, ∀ n c : Nat, (Value.slice A n c).oneCell' = true := fun _ _ _ => rfl
  go_enter Try.func12, Try.ntmps12
  go_wp2_with fail
  have st := W2.made w 26 (.int .i64 k1) (.int .i64 n1) (.float .f64 f1) (.string s1) (.slice KA1 keys1.length kc1) (.slice LA1 l1.length lc1) (.int .i64 k2) (.int .i64 n2) (.float .f64 f2) (.string s2) (.slice KA2 keys2.length kc2) (.slice LA2 l2.length lc2)
  generalize World.alloc _ _ = W at st ⊢
  obtain ⟨p0, p1, p2, p3, p4, p5⟩ := st.a
  obtain ⟨q0, q1, q2, q3, q4, q5⟩ := st.b
  go_wp2_with fail
  refine (HZ1.out _ st.below).mono ?_
  rintro e w1 ⟨⟨b, rfl⟩, hb⟩
  clear p0 p1 p2 p3 p4 p5 q0 q1 q2 q3 q4 q5
  replace st := st.call hb
  clear hb
  obtain ⟨p0, p1, p2, p3, p4, p5⟩ := st.a
  obtain ⟨q0, q1, q2, q3, q4, q5⟩ := st.b
  cases b
  · go_wp2
    go_ret
    exact ⟨rfl, st.below⟩
  go_wp2_with fail
  refine (HZ2.out _ st.below).mono ?_
  rintro e w2 ⟨⟨b, rfl⟩, hb⟩
  clear p0 p1 p2 p3 p4 p5 q0 q1 q2 q3 q4 q5
  replace st := st.call hb
  clear hb
  obtain ⟨p0, p1, p2, p3, p4, p5⟩ := st.a
  obtain ⟨q0, q1, q2, q3, q4, q5⟩ := st.b
  cases b
  · go_wp2
    go_ret
    exact ⟨rfl, st.below⟩
  go_wp2_with fail
  refine (HO1.out _ st.below).mono ?_
  rintro e w3 ⟨b, rfl, hok, hb⟩
  clear p0 p1 p2 p3 p4 p5 q0 q1 q2 q3 q4 q5
  replace st := st.call hb
  clear hb
  obtain ⟨p0, p1, p2, p3, p4, p5⟩ := st.a
  obtain ⟨q0, q1, q2, q3, q4, q5⟩ := st.b
  cases b
  · clear hok
    go_wp2
    go_ret
    exact ⟨rfl, st.below⟩
  have hu3 : u3 = true := HF.out (hok rfl)
  subst hu3
  clear hok HF
  go_wp2_with fail
  refine (HO2.out _ st.below).mono ?_
  rintro e w4 ⟨b, rfl, -, hb⟩
  clear p0 p1 p2 p3 p4 p5 q0 q1 q2 q3 q4 q5
  replace st := st.call hb
  clear hb
  obtain ⟨p0, p1, p2, p3, p4, p5⟩ := st.a
  obtain ⟨q0, q1, q2, q3, q4, q5⟩ := st.b
  cases b
  · go_wp2
    go_ret
    exact ⟨rfl, st.below⟩
  go_wp2_with fail
  clear p0 p1 p2 p3 p4 p5 q0 q1 q2 q3 q4 q5 HZ1 HZ2 HO1 HO2
  replace st := st.call (below_drew (Below.refl _ _))
  have hS0 := st
  obtain ⟨S, hS⟩ : ∃ S, W2 w (.int .i64 k1) (.int .i64 n1) (.float .f64 f1) (.string s1) (.slice KA1 keys1.length kc1) (.slice LA1 l1.length lc1) (.int .i64 k2) (.int .i64 n2) (.float .f64 f2) (.string s2) (.slice KA2 keys2.length kc2) (.slice LA2 l2.length lc2) = S := ⟨_, rfl⟩
  rw [hS] at hS0
  refine wp_region_head 20 S (by rfl) (by kernel_rfl) ?_
  refine HT.take 0 (v := ?_) rfl (by kernel_rfl) (fun _ _ _ h => h) (Or.inl ⟨by rfl, ?_⟩) (by assumption) ?_
  rotate_left
  · intro W hSw; rw [← hS] at hSw; obtain ⟨_, _, ⟨s0, s1, s2, s3, s4, s5⟩, ⟨t0, t1, t2, t3, t4, t5⟩⟩ := hSw; go_simp; with_reducible rfl
  simp only [Act.put, List.setIfInBounds_toArray, List.set_cons_zero, List.set_cons_succ]
  refine HT.take 1 (v := ?_) rfl (by kernel_rfl) (fun _ _ _ h => h) (Or.inl ⟨by rfl, ?_⟩) (by assumption) ?_
  rotate_left
  · intro W hSw; rw [← hS] at hSw; obtain ⟨_, _, ⟨s0, s1, s2, s3, s4, s5⟩, ⟨t0, t1, t2, t3, t4, t5⟩⟩ := hSw; go_simp; with_reducible rfl
  simp only [Act.put, List.setIfInBounds_toArray, List.set_cons_zero, List.set_cons_succ]
  refine HT.take 3 (v := ?_) rfl (by kernel_rfl) (fun _ _ _ h => h) (Or.inl ⟨by rfl, ?_⟩) (by assumption) ?_
  rotate_left
  · intro W hSw; rw [← hS] at hSw; obtain ⟨_, _, ⟨s0, s1, s2, s3, s4, s5⟩, ⟨t0, t1, t2, t3, t4, t5⟩⟩ := hSw; go_simp; with_reducible rfl
  simp only [Act.put, List.setIfInBounds_toArray, List.set_cons_zero, List.set_cons_succ]
  refine HT.take 4 (v := ?_) rfl (by kernel_rfl) (fun _ _ _ h => h) (Or.inl ⟨by rfl, ?_⟩) (by assumption) ?_
  rotate_left
  · intro W hSw; rw [← hS] at hSw; obtain ⟨_, _, ⟨s0, s1, s2, s3, s4, s5⟩, ⟨t0, t1, t2, t3, t4, t5⟩⟩ := hSw; go_simp; with_reducible rfl
  simp only [Act.put, List.setIfInBounds_toArray, List.set_cons_zero, List.set_cons_succ]
  refine HT.take 6 (v := ?_) rfl (by kernel_rfl) (fun _ _ _ h => h) (Or.inl ⟨by rfl, ?_⟩) (by assumption) ?_
  rotate_left
  · intro W hSw; rw [← hS] at hSw; obtain ⟨_, _, ⟨s0, s1, s2, s3, s4, s5⟩, ⟨t0, t1, t2, t3, t4, t5⟩⟩ := hSw; go_simp; with_reducible rfl
  simp only [Act.put, List.setIfInBounds_toArray, List.set_cons_zero, List.set_cons_succ]
  refine HT.take 7 (v := ?_) rfl (by kernel_rfl) (fun _ _ _ h => h) (Or.inl ⟨by rfl, ?_⟩) (by assumption) ?_
  rotate_left
  · intro W hSw; rw [← hS] at hSw; obtain ⟨_, _, ⟨s0, s1, s2, s3, s4, s5⟩, ⟨t0, t1, t2, t3, t4, t5⟩⟩ := hSw; go_simp; with_reducible rfl
  simp only [Act.put, List.setIfInBounds_toArray, List.set_cons_zero, List.set_cons_succ]
  refine HT.take 8 (v := ?_) rfl (by kernel_rfl) (fun _ _ _ h => h) (Or.inl ⟨by rfl, ?_⟩) (by assumption) ?_
  rotate_left
  · intro W hSw; rw [← hS] at hSw; obtain ⟨_, _, ⟨s0, s1, s2, s3, s4, s5⟩, ⟨t0, t1, t2, t3, t4, t5⟩⟩ := hSw; go_simp; with_reducible rfl
  simp only [Act.put, List.setIfInBounds_toArray, List.set_cons_zero, List.set_cons_succ]
  refine HT.take 9 (v := ?_) rfl (by kernel_rfl) (fun _ _ _ h => h) (Or.inl ⟨by rfl, ?_⟩) (by assumption) ?_
  rotate_left
  · intro W hSw; rw [← hS] at hSw; obtain ⟨_, _, ⟨s0, s1, s2, s3, s4, s5⟩, ⟨t0, t1, t2, t3, t4, t5⟩⟩ := hSw; go_simp; with_reducible rfl
  simp only [Act.put, List.setIfInBounds_toArray, List.set_cons_zero, List.set_cons_succ]
  refine HT.take 11 (v := ?_) rfl (by kernel_rfl) (fun _ _ _ h => h) (Or.inl ⟨by rfl, ?_⟩) (by assumption) ?_
  rotate_left
  · intro W hSw; rw [← hS] at hSw; obtain ⟨_, _, ⟨s0, s1, s2, s3, s4, s5⟩, ⟨t0, t1, t2, t3, t4, t5⟩⟩ := hSw; go_simp; with_reducible rfl
  simp only [Act.put, List.setIfInBounds_toArray, List.set_cons_zero, List.set_cons_succ]
  refine HT.take 12 (v := ?_) rfl (by kernel_rfl) (fun _ _ _ h => h) (Or.inl ⟨by rfl, ?_⟩) (by assumption) ?_
  rotate_left
  · intro W hSw; rw [← hS] at hSw; obtain ⟨_, _, ⟨s0, s1, s2, s3, s4, s5⟩, ⟨t0, t1, t2, t3, t4, t5⟩⟩ := hSw; go_simp; with_reducible rfl
  simp only [Act.put, List.setIfInBounds_toArray, List.set_cons_zero, List.set_cons_succ]
  refine HT.take 13 (v := ?_) rfl (by kernel_rfl) (fun _ _ _ h => h) (Or.inl ⟨by rfl, ?_⟩) (by assumption) ?_
  rotate_left
  · intro W hSw; rw [← hS] at hSw; obtain ⟨_, _, ⟨s0, s1, s2, s3, s4, s5⟩, ⟨t0, t1, t2, t3, t4, t5⟩⟩ := hSw; go_simp; with_reducible rfl
  simp only [Act.put, List.setIfInBounds_toArray, List.set_cons_zero, List.set_cons_succ]
  refine HT.take 14 (v := ?_) rfl (by kernel_rfl) (fun _ _ _ h => h) (Or.inl ⟨by rfl, ?_⟩) (by assumption) ?_
  rotate_left
  · intro W hSw; rw [← hS] at hSw; obtain ⟨_, _, ⟨s0, s1, s2, s3, s4, s5⟩, ⟨t0, t1, t2, t3, t4, t5⟩⟩ := hSw; go_simp; with_reducible rfl
  simp only [Act.put, List.setIfInBounds_toArray, List.set_cons_zero, List.set_cons_succ]
  obtain ⟨V, hV⟩ : ∃ V : Fin 4 → Value, V = fun j => if j = 0 then .agg #[.int .i64 5, .int .i64 0, .float .f64 0, .string ⟨#[]⟩, .slice none 0 0, .slice LA1 l1.length lc1] else if j = 1 then .agg #[.int .i64 5, .int .i64 0, .float .f64 0, .string ⟨#[]⟩, .slice none 0 0, .slice LA2 l2.length lc2]
      else if j = 2 then .agg #[.int .i64 6, .int .i64 0, .float .f64 0, .string ⟨#[]⟩, .slice KA1 keys1.length kc1, .slice LA1 l1.length lc1] else .agg #[.int .i64 6, .int .i64 0, .float .f64 0, .string ⟨#[]⟩, .slice KA2 keys2.length kc2, .slice LA2 l2.length lc2] := ⟨_, rfl⟩
  refine HT.inv0 (Reg5 w (.int .i64 k1) (.int .i64 n1) (.float .f64 f1) (.string s1) (.slice KA1 keys1.length kc1) (.slice LA1 l1.length lc1) (.int .i64 k2) (.int .i64 n2) (.float .f64 f2) (.string s2) (.slice KA2 keys2.length kc2) (.slice LA2 l2.length lc2) V) (by kernel_rfl) (by kernel_rfl) (by kernel_rfl) (by kernel_rfl) ?base ?step ?fin
  case base =>
    exact Reg5.base st (by kernel_rfl) (by kernel_rfl)
  case step =>
    rintro i oi listed a W hi hoi hun ⟨x, c, rfl, st, hld, g2, g5, g10, g15, hf⟩
    have hno : ∀ j ∈ [0, 1, 3, 4, 6, 7, 8, 9, 11, 12, 13, 14], i ≠ j := fun j hj e => by
      have := hld j hj
      rw [← e, hun] at this
      cases this
    have hcs : i = 2 ∨ i = 5 ∨ i = 10 ∨ i = 15 ∨ i = 16 ∨ i = 17 ∨ i = 18 ∨ i = 19 := by
      simp at hno
      omega
    have hld' : ∀ j ∈ [0, 1, 3, 4, 6, 7, 8, 9, 11, 12, 13, 14], (listed.setIfInBounds i true).getD j true = true := fun j hj => getD_up (hld j hj)
    have hsz := st.size
    rcases hcs with rfl | rfl | rfl | rfl | rfl | rfl | rfl | rfl
    · injection hoi with hoi
      subst hoi
      refine ⟨rfl, fun K hK => ?_⟩
      unfold upd8
      go_simp
      refine (lawList_calls _ _ _ W).mono ?_
      rintro e W' ⟨rfl, hb⟩
      go_simp
      refine hK.out _ _ (by rw [← hS]; exact st.call hb) ⟨x, fun j => if j = 0 then V 0 else c j, ?_, st.call hb, hld', fun _ => rfl, fun h => g5 (getD_dn (by decide) h), fun h => g10 (getD_dn (by decide) h), fun h => g15 (getD_dn (by decide) h), hf.below hb fun j h => getD_dn (by omega) h⟩
      subst hV
      kernel_rfl
    · injection hoi with hoi
      subst hoi
      refine ⟨rfl, fun K hK => ?_⟩
      unfold upd8
      go_simp
      refine (lawList_calls _ _ _ W).mono ?_
      rintro e W' ⟨rfl, hb⟩
      go_simp
      refine hK.out _ _ (by rw [← hS]; exact st.call hb) ⟨x, fun j => if j = 1 then V 1 else c j, ?_, st.call hb, hld', fun h => g2 (getD_dn (by decide) h), fun _ => rfl, fun h => g10 (getD_dn (by decide) h), fun h => g15 (getD_dn (by decide) h), hf.below hb fun j h => getD_dn (by omega) h⟩
      subst hV
      kernel_rfl
    · injection hoi with hoi
      subst hoi
      refine ⟨rfl, fun K hK => ?_⟩
      unfold upd8
      go_simp
      refine (lawFields_calls _ _ _ _ _ _ W).mono ?_
      rintro e W' ⟨rfl, hb⟩
      go_simp
      refine hK.out _ _ (by rw [← hS]; exact st.call hb) ⟨x, fun j => if j = 2 then V 2 else c j, ?_, st.call hb, hld', fun h => g2 (getD_dn (by decide) h), fun h => g5 (getD_dn (by decide) h), fun _ => rfl, fun h => g15 (getD_dn (by decide) h), hf.below hb fun j h => getD_dn (by omega) h⟩
      subst hV
      kernel_rfl
    · injection hoi with hoi
      subst hoi
      refine ⟨rfl, fun K hK => ?_⟩
      unfold upd8
      go_simp
      refine (lawFields_calls _ _ _ _ _ _ W).mono ?_
      rintro e W' ⟨rfl, hb⟩
      go_simp
      refine hK.out _ _ (by rw [← hS]; exact st.call hb) ⟨x, fun j => if j = 3 then V 3 else c j, ?_, st.call hb, hld', fun h => g2 (getD_dn (by decide) h), fun h => g5 (getD_dn (by decide) h), fun h => g10 (getD_dn (by decide) h), fun _ => rfl, hf.below hb fun j h => getD_dn (by omega) h⟩
      subst hV
      kernel_rfl
    · injection hoi with hoi
      subst hoi
      refine ⟨rfl, fun K hK => ?_⟩
      unfold upd8
      go_simp
      have hb : Below W.heap.size W (W.alloc (.cells #[.int .i64 0, .int .i64 0, .float .f64 0, .string ⟨#[]⟩, .slice none 0 0, .slice none 0 0] 26)) := (Below.refl _ _).alloc (Nat.le_refl _) _
      refine hK.out _ _ (by rw [← hS]; exact st.call hb) ⟨fun j => if j = 0 then .pointer (some ⟨W.heap.size, 0, none⟩) else x j, c, ?_, st.call hb, hld', fun h => g2 (getD_dn (by decide) h), fun h => g5 (getD_dn (by decide) h), fun h => g10 (getD_dn (by decide) h), fun h => g15 (getD_dn (by decide) h), hf.alloc 0 hsz fun j h => ?_⟩
      · kernel_rfl
      · by_cases hj : j = 0
        · exact .inl hj
        · exact .inr (getD_dn (by have := j.isLt; have : j.val ≠ 0 := fun e => hj (Fin.ext e); omega) h)
    · injection hoi with hoi
      subst hoi
      refine ⟨rfl, fun K hK => ?_⟩
      unfold upd8
      go_simp
      have hb : Below W.heap.size W (W.alloc (.cells #[.int .i64 0, .int .i64 0, .float .f64 0, .string ⟨#[]⟩, .slice none 0 0, .slice none 0 0] 26)) := (Below.refl _ _).alloc (Nat.le_refl _) _
      refine hK.out _ _ (by rw [← hS]; exact st.call hb) ⟨fun j => if j = 1 then .pointer (some ⟨W.heap.size, 0, none⟩) else x j, c, ?_, st.call hb, hld', fun h => g2 (getD_dn (by decide) h), fun h => g5 (getD_dn (by decide) h), fun h => g10 (getD_dn (by decide) h), fun h => g15 (getD_dn (by decide) h), hf.alloc 1 hsz fun j h => ?_⟩
      · kernel_rfl
      · by_cases hj : j = 1
        · exact .inl hj
        · exact .inr (getD_dn (by have := j.isLt; have : j.val ≠ 1 := fun e => hj (Fin.ext e); omega) h)
    · injection hoi with hoi
      subst hoi
      refine ⟨rfl, fun K hK => ?_⟩
      unfold upd8
      go_simp
      have hb : Below W.heap.size W (W.alloc (.cells #[.int .i64 0, .int .i64 0, .float .f64 0, .string ⟨#[]⟩, .slice none 0 0, .slice none 0 0] 26)) := (Below.refl _ _).alloc (Nat.le_refl _) _
      refine hK.out _ _ (by rw [← hS]; exact st.call hb) ⟨fun j => if j = 2 then .pointer (some ⟨W.heap.size, 0, none⟩) else x j, c, ?_, st.call hb, hld', fun h => g2 (getD_dn (by decide) h), fun h => g5 (getD_dn (by decide) h), fun h => g10 (getD_dn (by decide) h), fun h => g15 (getD_dn (by decide) h), hf.alloc 2 hsz fun j h => ?_⟩
      · kernel_rfl
      · by_cases hj : j = 2
        · exact .inl hj
        · exact .inr (getD_dn (by have := j.isLt; have : j.val ≠ 2 := fun e => hj (Fin.ext e); omega) h)
    · injection hoi with hoi
      subst hoi
      refine ⟨rfl, fun K hK => ?_⟩
      unfold upd8
      go_simp
      have hb : Below W.heap.size W (W.alloc (.cells #[.int .i64 0, .int .i64 0, .float .f64 0, .string ⟨#[]⟩, .slice none 0 0, .slice none 0 0] 26)) := (Below.refl _ _).alloc (Nat.le_refl _) _
      refine hK.out _ _ (by rw [← hS]; exact st.call hb) ⟨fun j => if j = 3 then .pointer (some ⟨W.heap.size, 0, none⟩) else x j, c, ?_, st.call hb, hld', fun h => g2 (getD_dn (by decide) h), fun h => g5 (getD_dn (by decide) h), fun h => g10 (getD_dn (by decide) h), fun h => g15 (getD_dn (by decide) h), hf.alloc 3 hsz fun j h => ?_⟩
      · kernel_rfl
      · by_cases hj : j = 3
        · exact .inl hj
        · exact .inr (getD_dn (by have := j.isLt; have : j.val ≠ 3 := fun e => hj (Fin.ext e); omega) h)
  case fin =>
    rintro listed a W hall ⟨x, c, rfl, st, -, g2, g5, g10, g15, p, hp, hne⟩
    have hc0 := g2 (hall 2 (by decide))
    have hc1 := g5 (hall 5 (by decide))
    have hc2 := g10 (hall 10 (by decide))
    have hc3 := g15 (hall 15 (by decide))
    obtain ⟨hx0, hp0, hz0⟩ := hp 0 (hall 16 (by decide))
    obtain ⟨hx1, hp1, hz1⟩ := hp 1 (hall 17 (by decide))
    obtain ⟨hx2, hp2, hz2⟩ := hp 2 (hall 18 (by decide))
    obtain ⟨hx3, hp3, hz3⟩ := hp 3 (hall 19 (by decide))
    have n01 := hne 0 1 (hall 16 (by decide)) (hall 17 (by decide)) (by decide)
    have n02 := hne 0 2 (hall 16 (by decide)) (hall 18 (by decide)) (by decide)
    have n03 := hne 0 3 (hall 16 (by decide)) (hall 19 (by decide)) (by decide)
    have n12 := hne 1 2 (hall 17 (by decide)) (hall 18 (by decide)) (by decide)
    have n13 := hne 1 3 (hall 17 (by decide)) (hall 19 (by decide)) (by decide)
    have n23 := hne 2 3 (hall 18 (by decide)) (hall 19 (by decide)) (by decide)
    clear hp hne g2 g5 g10 g15 hall
    generalize p 0 = pa at *
    generalize p 1 = pb at *
    generalize p 2 = pc at *
    generalize p 3 = pd at *
    subst hV
    unfold upd8
    rw [hc0, hc1, hc2, hc3, hx0, hx1, hx2, hx3]
    clear hc0 hc1 hc2 hc3 hx0 hx1 hx2 hx3
    simp only [List.drop_succ_cons, List.drop_zero]
    go_simp
    have hsz := st.size
    have hst := hide st
    obtain ⟨qa0, qa1, qa2, qa3, qa4, qa5⟩ := Bx.of hz0
    obtain ⟨qb0, qb1, qb2, qb3, qb4, qb5⟩ := Bx.of hz1
    obtain ⟨qc0, qc1, qc2, qc3, qc4, qc5⟩ := Bx.of hz2
    obtain ⟨qd0, qd1, qd2, qd3, qd4, qd5⟩ := Bx.of hz3
    have fa : ∀ i, W.frozen? ⟨pa, i, none⟩ = false := fun i => Bk.free hz0 i
    have fb : ∀ i, W.frozen? ⟨pb, i, none⟩ = false := fun i => Bk.free hz1 i
    have fc : ∀ i, W.frozen? ⟨pc, i, none⟩ = false := fun i => Bk.free hz2 i
    have fd : ∀ i, W.frozen? ⟨pd, i, none⟩ = false := fun i => Bk.free hz3 i
    have m01 := n01.symm
    have m02 := n02.symm
    have m03 := n03.symm
    have m12 := n12.symm
    have m13 := n13.symm
    have m23 := n23.symm
    have Hz := hide (And.intro hz0 (And.intro hz1 (And.intro hz2 hz3)))
    clear hz0 hz1 hz2 hz3 st
    go_wp2_with fail
    have wl0 : WL w pa pb pc pd (.int .i64 k1) (.int .i64 n1) (.float .f64 f1) (.string s1) (.slice KA1 keys1.length kc1) (.slice LA1 l1.length lc1) (.int .i64 k2) (.int .i64 n2) (.float .f64 f2) (.string s2) (.slice KA2 keys2.length kc2) (.slice LA2 l2.length lc2) _ := WL.made hst.out hp0 hp1 hp2 hp3 Hz.out.1 Hz.out.2.1 Hz.out.2.2.1 Hz.out.2.2.2 n01 n02 n03 n12 n13 n23
    unfold set6 at wl0
    generalize (World.setCell _ _ _) = W5 at wl0 ⊢
    clear qa0 qa1 qa2 qa3 qa4 qa5 qb0 qb1 qb2 qb3 qb4 qb5 qc0 qc1 qc2 qc3 qc4 qc5 qd0 qd1 qd2 qd3 qd4 qd5 fa fb fc fd Hz hst hS0 hS S st
    have wl := wl0.call (below_drew (Below.refl _ _))
    clear wl0
    have hS0 := wl
    obtain ⟨S, hS⟩ : ∃ S, WL w pa pb pc pd (.int .i64 k1) (.int .i64 n1) (.float .f64 f1) (.string s1) (.slice KA1 keys1.length kc1) (.slice LA1 l1.length lc1) (.int .i64 k2) (.int .i64 n2) (.float .f64 f2) (.string s2) (.slice KA2 keys2.length kc2) (.slice LA2 l2.length lc2) = S := ⟨_, rfl⟩
    rw [hS] at hS0
    refine wp_region_head 43 S (by rfl) (by kernel_rfl) ?_
    refine HT.take 0 (v := ?_) rfl (by kernel_rfl) (fun _ _ _ h => h) (Or.inl ⟨by rfl, ?_⟩) (by assumption) ?_
    rotate_left
    · intro W hSw; rw [← hS] at hSw; obtain ⟨⟨_, _, ⟨s0, s1, s2, s3, s4, s5⟩, ⟨t0, t1, t2, t3, t4, t5⟩⟩, ⟨u0, u1, u2, u3, u4, u5⟩, ⟨v0, v1, v2, v3, v4, v5⟩, ⟨y0, y1, y2, y3, y4, y5⟩, ⟨z0, z1, z2, z3, z4, z5⟩, _⟩ := hSw; go_simp; with_reducible rfl
    simp only [Act.put, List.setIfInBounds_toArray, List.set_cons_zero, List.set_cons_succ]
    refine HT.take 1 (v := ?_) rfl (by kernel_rfl) (fun _ _ _ h => h) (Or.inl ⟨by rfl, ?_⟩) (by assumption) ?_
    rotate_left
    · intro W hSw; rw [← hS] at hSw; obtain ⟨⟨_, _, ⟨s0, s1, s2, s3, s4, s5⟩, ⟨t0, t1, t2, t3, t4, t5⟩⟩, ⟨u0, u1, u2, u3, u4, u5⟩, ⟨v0, v1, v2, v3, v4, v5⟩, ⟨y0, y1, y2, y3, y4, y5⟩, ⟨z0, z1, z2, z3, z4, z5⟩, _⟩ := hSw; go_simp; with_reducible rfl
    simp only [Act.put, List.setIfInBounds_toArray, List.set_cons_zero, List.set_cons_succ]
    refine HT.take 3 (v := ?_) rfl (by kernel_rfl) (fun _ _ _ h => h) (Or.inl ⟨by rfl, ?_⟩) (by assumption) ?_
    rotate_left
    · intro W hSw; rw [← hS] at hSw; obtain ⟨⟨_, _, ⟨s0, s1, s2, s3, s4, s5⟩, ⟨t0, t1, t2, t3, t4, t5⟩⟩, ⟨u0, u1, u2, u3, u4, u5⟩, ⟨v0, v1, v2, v3, v4, v5⟩, ⟨y0, y1, y2, y3, y4, y5⟩, ⟨z0, z1, z2, z3, z4, z5⟩, _⟩ := hSw; go_simp; with_reducible rfl
    simp only [Act.put, List.setIfInBounds_toArray, List.set_cons_zero, List.set_cons_succ]
    refine HT.take 4 (v := ?_) rfl (by kernel_rfl) (fun _ _ _ h => h) (Or.inl ⟨by rfl, ?_⟩) (by assumption) ?_
    rotate_left
    · intro W hSw; rw [← hS] at hSw; obtain ⟨⟨_, _, ⟨s0, s1, s2, s3, s4, s5⟩, ⟨t0, t1, t2, t3, t4, t5⟩⟩, ⟨u0, u1, u2, u3, u4, u5⟩, ⟨v0, v1, v2, v3, v4, v5⟩, ⟨y0, y1, y2, y3, y4, y5⟩, ⟨z0, z1, z2, z3, z4, z5⟩, _⟩ := hSw; go_simp; with_reducible rfl
    simp only [Act.put, List.setIfInBounds_toArray, List.set_cons_zero, List.set_cons_succ]
    refine HT.take 5 (v := ?_) rfl (by kernel_rfl) (fun _ _ _ h => h) (Or.inl ⟨by rfl, ?_⟩) (by assumption) ?_
    rotate_left
    · intro W hSw; rw [← hS] at hSw; obtain ⟨⟨_, _, ⟨s0, s1, s2, s3, s4, s5⟩, ⟨t0, t1, t2, t3, t4, t5⟩⟩, ⟨u0, u1, u2, u3, u4, u5⟩, ⟨v0, v1, v2, v3, v4, v5⟩, ⟨y0, y1, y2, y3, y4, y5⟩, ⟨z0, z1, z2, z3, z4, z5⟩, _⟩ := hSw; go_simp; with_reducible rfl
    simp only [Act.put, List.setIfInBounds_toArray, List.set_cons_zero, List.set_cons_succ]
    refine HT.take 6 (v := ?_) rfl (by kernel_rfl) (fun _ _ _ h => h) (Or.inl ⟨by rfl, ?_⟩) (by assumption) ?_
    rotate_left
    · intro W hSw; rw [← hS] at hSw; obtain ⟨⟨_, _, ⟨s0, s1, s2, s3, s4, s5⟩, ⟨t0, t1, t2, t3, t4, t5⟩⟩, ⟨u0, u1, u2, u3, u4, u5⟩, ⟨v0, v1, v2, v3, v4, v5⟩, ⟨y0, y1, y2, y3, y4, y5⟩, ⟨z0, z1, z2, z3, z4, z5⟩, _⟩ := hSw; go_simp; with_reducible rfl
    simp only [Act.put, List.setIfInBounds_toArray, List.set_cons_zero, List.set_cons_succ]
    refine HT.one 2 rfl (by kernel_rfl) (by rfl) (fun K hK => ?_)
    go_simp
    refine (HCV.out _ wl.st.below).mono ?_
    rintro e y1w ⟨rfl, hb⟩
    replace wl := wl.call hb
    clear hb
    go_simp
    refine hK.out _ _ (by rw [← hS]; exact wl) ?_
    clear hK hS0
    have hS0 := wl
    rw [hS] at hS0
    refine HT.one 7 rfl (by kernel_rfl) (by rfl) (fun K hK => ?_)
    go_simp
    refine (HCL.out _ wl.st.below).mono ?_
    rintro e y2w ⟨rfl, hb⟩
    replace wl := wl.call hb
    clear hb
    go_simp
    refine hK.out _ _ (by rw [← hS]; exact wl) ?_
    clear hK hS0
    have hS0 := wl
    rw [hS] at hS0
    refine HT.take 8 (v := ?_) rfl (by kernel_rfl) (fun _ _ _ h => h) (Or.inl ⟨by rfl, ?_⟩) (by assumption) ?_
    rotate_left
    · intro W hSw; rw [← hS] at hSw; obtain ⟨⟨_, _, ⟨s0, s1, s2, s3, s4, s5⟩, ⟨t0, t1, t2, t3, t4, t5⟩⟩, ⟨u0, u1, u2, u3, u4, u5⟩, ⟨v0, v1, v2, v3, v4, v5⟩, ⟨y0, y1, y2, y3, y4, y5⟩, ⟨z0, z1, z2, z3, z4, z5⟩, _⟩ := hSw; go_simp; with_reducible rfl
    simp only [Act.put, List.setIfInBounds_toArray, List.set_cons_zero, List.set_cons_succ]
    refine HT.take 9 (v := ?_) rfl (by kernel_rfl) (fun _ _ _ h => h) (Or.inl ⟨by rfl, ?_⟩) (by assumption) ?_
    rotate_left
    · intro W hSw; rw [← hS] at hSw; obtain ⟨⟨_, _, ⟨s0, s1, s2, s3, s4, s5⟩, ⟨t0, t1, t2, t3, t4, t5⟩⟩, ⟨u0, u1, u2, u3, u4, u5⟩, ⟨v0, v1, v2, v3, v4, v5⟩, ⟨y0, y1, y2, y3, y4, y5⟩, ⟨z0, z1, z2, z3, z4, z5⟩, _⟩ := hSw; go_simp; with_reducible rfl
    simp only [Act.put, List.setIfInBounds_toArray, List.set_cons_zero, List.set_cons_succ]
    refine HT.take 10 (v := ?_) rfl (by kernel_rfl) (fun _ _ _ h => h) (Or.inl ⟨by rfl, ?_⟩) (by assumption) ?_
    rotate_left
    · intro W hSw; rw [← hS] at hSw; obtain ⟨⟨_, _, ⟨s0, s1, s2, s3, s4, s5⟩, ⟨t0, t1, t2, t3, t4, t5⟩⟩, ⟨u0, u1, u2, u3, u4, u5⟩, ⟨v0, v1, v2, v3, v4, v5⟩, ⟨y0, y1, y2, y3, y4, y5⟩, ⟨z0, z1, z2, z3, z4, z5⟩, _⟩ := hSw; go_simp; with_reducible rfl
    simp only [Act.put, List.setIfInBounds_toArray, List.set_cons_zero, List.set_cons_succ]
    refine HT.take 11 (v := ?_) rfl (by kernel_rfl) (fun _ _ _ h => h) (Or.inl ⟨by rfl, ?_⟩) (by assumption) ?_
    rotate_left
    · intro W hSw; rw [← hS] at hSw; obtain ⟨⟨_, _, ⟨s0, s1, s2, s3, s4, s5⟩, ⟨t0, t1, t2, t3, t4, t5⟩⟩, ⟨u0, u1, u2, u3, u4, u5⟩, ⟨v0, v1, v2, v3, v4, v5⟩, ⟨y0, y1, y2, y3, y4, y5⟩, ⟨z0, z1, z2, z3, z4, z5⟩, _⟩ := hSw; go_simp; with_reducible rfl
    simp only [Act.put, List.setIfInBounds_toArray, List.set_cons_zero, List.set_cons_succ]
    refine HT.take 13 (v := ?_) rfl (by kernel_rfl) (fun _ _ _ h => h) (Or.inl ⟨by rfl, ?_⟩) (by assumption) ?_
    rotate_left
    · intro W hSw; rw [← hS] at hSw; obtain ⟨⟨_, _, ⟨s0, s1, s2, s3, s4, s5⟩, ⟨t0, t1, t2, t3, t4, t5⟩⟩, ⟨u0, u1, u2, u3, u4, u5⟩, ⟨v0, v1, v2, v3, v4, v5⟩, ⟨y0, y1, y2, y3, y4, y5⟩, ⟨z0, z1, z2, z3, z4, z5⟩, _⟩ := hSw; go_simp; with_reducible rfl
    simp only [Act.put, List.setIfInBounds_toArray, List.set_cons_zero, List.set_cons_succ]
    refine HT.take 14 (v := ?_) rfl (by kernel_rfl) (fun _ _ _ h => h) (Or.inl ⟨by rfl, ?_⟩) (by assumption) ?_
    rotate_left
    · intro W hSw; rw [← hS] at hSw; obtain ⟨⟨_, _, ⟨s0, s1, s2, s3, s4, s5⟩, ⟨t0, t1, t2, t3, t4, t5⟩⟩, ⟨u0, u1, u2, u3, u4, u5⟩, ⟨v0, v1, v2, v3, v4, v5⟩, ⟨y0, y1, y2, y3, y4, y5⟩, ⟨z0, z1, z2, z3, z4, z5⟩, _⟩ := hSw; go_simp; with_reducible rfl
    simp only [Act.put, List.setIfInBounds_toArray, List.set_cons_zero, List.set_cons_succ]
    refine HT.take 15 (v := ?_) rfl (by kernel_rfl) (fun _ _ _ h => h) (Or.inl ⟨by rfl, ?_⟩) (by assumption) ?_
    rotate_left
    · intro W hSw; rw [← hS] at hSw; obtain ⟨⟨_, _, ⟨s0, s1, s2, s3, s4, s5⟩, ⟨t0, t1, t2, t3, t4, t5⟩⟩, ⟨u0, u1, u2, u3, u4, u5⟩, ⟨v0, v1, v2, v3, v4, v5⟩, ⟨y0, y1, y2, y3, y4, y5⟩, ⟨z0, z1, z2, z3, z4, z5⟩, _⟩ := hSw; go_simp; with_reducible rfl
    simp only [Act.put, List.setIfInBounds_toArray, List.set_cons_zero, List.set_cons_succ]
    refine HT.take 16 (v := ?_) rfl (by kernel_rfl) (fun _ _ _ h => h) (Or.inl ⟨by rfl, ?_⟩) (by assumption) ?_
    rotate_left
    · intro W hSw; rw [← hS] at hSw; obtain ⟨⟨_, _, ⟨s0, s1, s2, s3, s4, s5⟩, ⟨t0, t1, t2, t3, t4, t5⟩⟩, ⟨u0, u1, u2, u3, u4, u5⟩, ⟨v0, v1, v2, v3, v4, v5⟩, ⟨y0, y1, y2, y3, y4, y5⟩, ⟨z0, z1, z2, z3, z4, z5⟩, _⟩ := hSw; go_simp; with_reducible rfl
    simp only [Act.put, List.setIfInBounds_toArray, List.set_cons_zero, List.set_cons_succ]
    refine HT.one 12 rfl (by kernel_rfl) (by rfl) (fun K hK => ?_)
    go_simp
    refine (HEV.out _ wl.st.below).mono ?_
    rintro e y3w ⟨rfl, hb⟩
    replace wl := wl.call hb
    clear hb
    go_simp
    refine hK.out _ _ (by rw [← hS]; exact wl) ?_
    clear hK hS0
    have hS0 := wl
    rw [hS] at hS0
    refine HT.one 17 rfl (by kernel_rfl) (by rfl) (fun K hK => ?_)
    go_simp
    refine (HEL.out _ wl.st.below).mono ?_
    rintro e y4w ⟨rfl, hb⟩
    replace wl := wl.call hb
    clear hb
    go_simp
    refine hK.out _ _ (by rw [← hS]; exact wl) ?_
    clear hK hS0
    have hS0 := wl
    rw [hS] at hS0
    refine HT.take 18 (v := ?_) rfl (by kernel_rfl) (fun _ _ _ h => h) (Or.inl ⟨by rfl, ?_⟩) (by assumption) ?_
    rotate_left
    · intro W hSw; rw [← hS] at hSw; obtain ⟨⟨_, _, ⟨s0, s1, s2, s3, s4, s5⟩, ⟨t0, t1, t2, t3, t4, t5⟩⟩, ⟨u0, u1, u2, u3, u4, u5⟩, ⟨v0, v1, v2, v3, v4, v5⟩, ⟨y0, y1, y2, y3, y4, y5⟩, ⟨z0, z1, z2, z3, z4, z5⟩, _⟩ := hSw; go_simp; with_reducible rfl
    simp only [Act.put, List.setIfInBounds_toArray, List.set_cons_zero, List.set_cons_succ]
    refine HT.take 19 (v := ?_) rfl (by kernel_rfl) (fun _ _ _ h => h) (Or.inl ⟨by rfl, ?_⟩) (by assumption) ?_
    rotate_left
    · intro W hSw; rw [← hS] at hSw; obtain ⟨⟨_, _, ⟨s0, s1, s2, s3, s4, s5⟩, ⟨t0, t1, t2, t3, t4, t5⟩⟩, ⟨u0, u1, u2, u3, u4, u5⟩, ⟨v0, v1, v2, v3, v4, v5⟩, ⟨y0, y1, y2, y3, y4, y5⟩, ⟨z0, z1, z2, z3, z4, z5⟩, _⟩ := hSw; go_simp; with_reducible rfl
    simp only [Act.put, List.setIfInBounds_toArray, List.set_cons_zero, List.set_cons_succ]
    refine HT.take 20 (v := ?_) rfl (by kernel_rfl) (fun _ _ _ h => h) (Or.inl ⟨by rfl, ?_⟩) (by assumption) ?_
    rotate_left
    · intro W hSw; rw [← hS] at hSw; obtain ⟨⟨_, _, ⟨s0, s1, s2, s3, s4, s5⟩, ⟨t0, t1, t2, t3, t4, t5⟩⟩, ⟨u0, u1, u2, u3, u4, u5⟩, ⟨v0, v1, v2, v3, v4, v5⟩, ⟨y0, y1, y2, y3, y4, y5⟩, ⟨z0, z1, z2, z3, z4, z5⟩, _⟩ := hSw; go_simp; with_reducible rfl
    simp only [Act.put, List.setIfInBounds_toArray, List.set_cons_zero, List.set_cons_succ]
    refine HT.take 21 (v := ?_) rfl (by kernel_rfl) (fun _ _ _ h => h) (Or.inl ⟨by rfl, ?_⟩) (by assumption) ?_
    rotate_left
    · intro W hSw; rw [← hS] at hSw; obtain ⟨⟨_, _, ⟨s0, s1, s2, s3, s4, s5⟩, ⟨t0, t1, t2, t3, t4, t5⟩⟩, ⟨u0, u1, u2, u3, u4, u5⟩, ⟨v0, v1, v2, v3, v4, v5⟩, ⟨y0, y1, y2, y3, y4, y5⟩, ⟨z0, z1, z2, z3, z4, z5⟩, _⟩ := hSw; go_simp; with_reducible rfl
    simp only [Act.put, List.setIfInBounds_toArray, List.set_cons_zero, List.set_cons_succ]
    refine HT.take 22 (v := ?_) rfl (by kernel_rfl) (fun _ _ _ h => h) (Or.inl ⟨by rfl, ?_⟩) (by assumption) ?_
    rotate_left
    · intro W hSw; rw [← hS] at hSw; obtain ⟨⟨_, _, ⟨s0, s1, s2, s3, s4, s5⟩, ⟨t0, t1, t2, t3, t4, t5⟩⟩, ⟨u0, u1, u2, u3, u4, u5⟩, ⟨v0, v1, v2, v3, v4, v5⟩, ⟨y0, y1, y2, y3, y4, y5⟩, ⟨z0, z1, z2, z3, z4, z5⟩, _⟩ := hSw; go_simp; with_reducible rfl
    simp only [Act.put, List.setIfInBounds_toArray, List.set_cons_zero, List.set_cons_succ]
    refine HT.take 24 (v := ?_) rfl (by kernel_rfl) (fun _ _ _ h => h) (Or.inl ⟨by rfl, ?_⟩) (by assumption) ?_
    rotate_left
    · intro W hSw; rw [← hS] at hSw; obtain ⟨⟨_, _, ⟨s0, s1, s2, s3, s4, s5⟩, ⟨t0, t1, t2, t3, t4, t5⟩⟩, ⟨u0, u1, u2, u3, u4, u5⟩, ⟨v0, v1, v2, v3, v4, v5⟩, ⟨y0, y1, y2, y3, y4, y5⟩, ⟨z0, z1, z2, z3, z4, z5⟩, _⟩ := hSw; go_simp; with_reducible rfl
    simp only [Act.put, List.setIfInBounds_toArray, List.set_cons_zero, List.set_cons_succ]
    refine HT.take 25 (v := ?_) rfl (by kernel_rfl) (fun _ _ _ h => h) (Or.inl ⟨by rfl, ?_⟩) (by assumption) ?_
    rotate_left
    · intro W hSw; rw [← hS] at hSw; obtain ⟨⟨_, _, ⟨s0, s1, s2, s3, s4, s5⟩, ⟨t0, t1, t2, t3, t4, t5⟩⟩, ⟨u0, u1, u2, u3, u4, u5⟩, ⟨v0, v1, v2, v3, v4, v5⟩, ⟨y0, y1, y2, y3, y4, y5⟩, ⟨z0, z1, z2, z3, z4, z5⟩, _⟩ := hSw; go_simp; with_reducible rfl
    simp only [Act.put, List.setIfInBounds_toArray, List.set_cons_zero, List.set_cons_succ]
    refine HT.one 23 rfl (by kernel_rfl) (by rfl) (fun K hK => ?_)
    go_simp
    refine (HCF.out _ wl.st.below).mono ?_
    rintro e y5w ⟨rfl, hb⟩
    replace wl := wl.call hb
    clear hb
    go_simp
    refine hK.out _ _ (by rw [← hS]; exact wl) ?_
    clear hK hS0
    have hS0 := wl
    rw [hS] at hS0
    refine HT.one 26 rfl (by kernel_rfl) (by rfl) (fun K hK => ?_)
    go_simp
    refine (HCM.out _ wl.st.below).mono ?_
    rintro e y6w ⟨rfl, hb⟩
    replace wl := wl.call hb
    clear hb
    go_simp
    refine hK.out _ _ (by rw [← hS]; exact wl) ?_
    clear hK hS0
    have hS0 := wl
    rw [hS] at hS0
    refine HT.take 27 (v := ?_) rfl (by kernel_rfl) (fun _ _ _ h => h) (Or.inl ⟨by rfl, ?_⟩) (by assumption) ?_
    rotate_left
    · intro W hSw; rw [← hS] at hSw; obtain ⟨⟨_, _, ⟨s0, s1, s2, s3, s4, s5⟩, ⟨t0, t1, t2, t3, t4, t5⟩⟩, ⟨u0, u1, u2, u3, u4, u5⟩, ⟨v0, v1, v2, v3, v4, v5⟩, ⟨y0, y1, y2, y3, y4, y5⟩, ⟨z0, z1, z2, z3, z4, z5⟩, _⟩ := hSw; go_simp; with_reducible rfl
    simp only [Act.put, List.setIfInBounds_toArray, List.set_cons_zero, List.set_cons_succ]
    refine HT.take 28 (v := ?_) rfl (by kernel_rfl) (fun _ _ _ h => h) (Or.inl ⟨by rfl, ?_⟩) (by assumption) ?_
    rotate_left
    · intro W hSw; rw [← hS] at hSw; obtain ⟨⟨_, _, ⟨s0, s1, s2, s3, s4, s5⟩, ⟨t0, t1, t2, t3, t4, t5⟩⟩, ⟨u0, u1, u2, u3, u4, u5⟩, ⟨v0, v1, v2, v3, v4, v5⟩, ⟨y0, y1, y2, y3, y4, y5⟩, ⟨z0, z1, z2, z3, z4, z5⟩, _⟩ := hSw; go_simp; with_reducible rfl
    simp only [Act.put, List.setIfInBounds_toArray, List.set_cons_zero, List.set_cons_succ]
    refine HT.take 29 (v := ?_) rfl (by kernel_rfl) (fun _ _ _ h => h) (Or.inl ⟨by rfl, ?_⟩) (by assumption) ?_
    rotate_left
    · intro W hSw; rw [← hS] at hSw; obtain ⟨⟨_, _, ⟨s0, s1, s2, s3, s4, s5⟩, ⟨t0, t1, t2, t3, t4, t5⟩⟩, ⟨u0, u1, u2, u3, u4, u5⟩, ⟨v0, v1, v2, v3, v4, v5⟩, ⟨y0, y1, y2, y3, y4, y5⟩, ⟨z0, z1, z2, z3, z4, z5⟩, _⟩ := hSw; go_simp; with_reducible rfl
    simp only [Act.put, List.setIfInBounds_toArray, List.set_cons_zero, List.set_cons_succ]
    refine HT.take 30 (v := ?_) rfl (by kernel_rfl) (fun _ _ _ h => h) (Or.inl ⟨by rfl, ?_⟩) (by assumption) ?_
    rotate_left
    · intro W hSw; rw [← hS] at hSw; obtain ⟨⟨_, _, ⟨s0, s1, s2, s3, s4, s5⟩, ⟨t0, t1, t2, t3, t4, t5⟩⟩, ⟨u0, u1, u2, u3, u4, u5⟩, ⟨v0, v1, v2, v3, v4, v5⟩, ⟨y0, y1, y2, y3, y4, y5⟩, ⟨z0, z1, z2, z3, z4, z5⟩, _⟩ := hSw; go_simp; with_reducible rfl
    simp only [Act.put, List.setIfInBounds_toArray, List.set_cons_zero, List.set_cons_succ]
    refine HT.take 31 (v := ?_) rfl (by kernel_rfl) (fun _ _ _ h => h) (Or.inl ⟨by rfl, ?_⟩) (by assumption) ?_
    rotate_left
    · intro W hSw; rw [← hS] at hSw; obtain ⟨⟨_, _, ⟨s0, s1, s2, s3, s4, s5⟩, ⟨t0, t1, t2, t3, t4, t5⟩⟩, ⟨u0, u1, u2, u3, u4, u5⟩, ⟨v0, v1, v2, v3, v4, v5⟩, ⟨y0, y1, y2, y3, y4, y5⟩, ⟨z0, z1, z2, z3, z4, z5⟩, _⟩ := hSw; go_simp; with_reducible rfl
    simp only [Act.put, List.setIfInBounds_toArray, List.set_cons_zero, List.set_cons_succ]
    refine HT.take 33 (v := ?_) rfl (by kernel_rfl) (fun _ _ _ h => h) (Or.inl ⟨by rfl, ?_⟩) (by assumption) ?_
    rotate_left
    · intro W hSw; rw [← hS] at hSw; obtain ⟨⟨_, _, ⟨s0, s1, s2, s3, s4, s5⟩, ⟨t0, t1, t2, t3, t4, t5⟩⟩, ⟨u0, u1, u2, u3, u4, u5⟩, ⟨v0, v1, v2, v3, v4, v5⟩, ⟨y0, y1, y2, y3, y4, y5⟩, ⟨z0, z1, z2, z3, z4, z5⟩, _⟩ := hSw; go_simp; with_reducible rfl
    simp only [Act.put, List.setIfInBounds_toArray, List.set_cons_zero, List.set_cons_succ]
    refine HT.take 34 (v := ?_) rfl (by kernel_rfl) (fun _ _ _ h => h) (Or.inl ⟨by rfl, ?_⟩) (by assumption) ?_
    rotate_left
    · intro W hSw; rw [← hS] at hSw; obtain ⟨⟨_, _, ⟨s0, s1, s2, s3, s4, s5⟩, ⟨t0, t1, t2, t3, t4, t5⟩⟩, ⟨u0, u1, u2, u3, u4, u5⟩, ⟨v0, v1, v2, v3, v4, v5⟩, ⟨y0, y1, y2, y3, y4, y5⟩, ⟨z0, z1, z2, z3, z4, z5⟩, _⟩ := hSw; go_simp; with_reducible rfl
    simp only [Act.put, List.setIfInBounds_toArray, List.set_cons_zero, List.set_cons_succ]
    refine HT.one 32 rfl (by kernel_rfl) (by rfl) (fun K hK => ?_)
    go_simp
    refine (HEF.out _ wl.st.below).mono ?_
    rintro e y7w ⟨rfl, hb⟩
    replace wl := wl.call hb
    clear hb
    go_simp
    refine hK.out _ _ (by rw [← hS]; exact wl) ?_
    clear hK hS0
    have hS0 := wl
    rw [hS] at hS0
    refine HT.one 35 rfl (by kernel_rfl) (by rfl) (fun K hK => ?_)
    go_simp
    refine (HEM.out _ wl.st.below).mono ?_
    rintro e y8w ⟨rfl, hb⟩
    replace wl := wl.call hb
    clear hb
    go_simp
    refine hK.out _ _ (by rw [← hS]; exact wl) ?_
    clear hK hS0
    have hS0 := wl
    rw [hS] at hS0
    refine HT.take 36 (v := ?_) rfl (by kernel_rfl) (fun _ _ _ h => h) (Or.inl ⟨by rfl, ?_⟩) (by assumption) ?_
    rotate_left
    · intro W hSw; rw [← hS] at hSw; obtain ⟨⟨_, _, ⟨s0, s1, s2, s3, s4, s5⟩, ⟨t0, t1, t2, t3, t4, t5⟩⟩, ⟨u0, u1, u2, u3, u4, u5⟩, ⟨v0, v1, v2, v3, v4, v5⟩, ⟨y0, y1, y2, y3, y4, y5⟩, ⟨z0, z1, z2, z3, z4, z5⟩, _⟩ := hSw; go_simp; with_reducible rfl
    simp only [Act.put, List.setIfInBounds_toArray, List.set_cons_zero, List.set_cons_succ]
    refine HT.take 37 (v := ?_) rfl (by kernel_rfl) (fun _ _ _ h => h) (Or.inl ⟨by rfl, ?_⟩) (by assumption) ?_
    rotate_left
    · intro W hSw; rw [← hS] at hSw; obtain ⟨⟨_, _, ⟨s0, s1, s2, s3, s4, s5⟩, ⟨t0, t1, t2, t3, t4, t5⟩⟩, ⟨u0, u1, u2, u3, u4, u5⟩, ⟨v0, v1, v2, v3, v4, v5⟩, ⟨y0, y1, y2, y3, y4, y5⟩, ⟨z0, z1, z2, z3, z4, z5⟩, _⟩ := hSw; go_simp; with_reducible rfl
    simp only [Act.put, List.setIfInBounds_toArray, List.set_cons_zero, List.set_cons_succ]
    refine HT.take 38 (v := ?_) rfl (by kernel_rfl) (fun _ _ _ h => h) (Or.inl ⟨by rfl, ?_⟩) (by assumption) ?_
    rotate_left
    · intro W hSw; rw [← hS] at hSw; obtain ⟨⟨_, _, ⟨s0, s1, s2, s3, s4, s5⟩, ⟨t0, t1, t2, t3, t4, t5⟩⟩, ⟨u0, u1, u2, u3, u4, u5⟩, ⟨v0, v1, v2, v3, v4, v5⟩, ⟨y0, y1, y2, y3, y4, y5⟩, ⟨z0, z1, z2, z3, z4, z5⟩, _⟩ := hSw; go_simp; with_reducible rfl
    simp only [Act.put, List.setIfInBounds_toArray, List.set_cons_zero, List.set_cons_succ]
    refine HT.take 39 (v := ?_) rfl (by kernel_rfl) (fun _ _ _ h => h) (Or.inl ⟨by rfl, ?_⟩) (by assumption) ?_
    rotate_left
    · intro W hSw; rw [← hS] at hSw; obtain ⟨⟨_, _, ⟨s0, s1, s2, s3, s4, s5⟩, ⟨t0, t1, t2, t3, t4, t5⟩⟩, ⟨u0, u1, u2, u3, u4, u5⟩, ⟨v0, v1, v2, v3, v4, v5⟩, ⟨y0, y1, y2, y3, y4, y5⟩, ⟨z0, z1, z2, z3, z4, z5⟩, _⟩ := hSw; go_simp; with_reducible rfl
    simp only [Act.put, List.setIfInBounds_toArray, List.set_cons_zero, List.set_cons_succ]
    refine HT.take 40 (v := ?_) rfl (by kernel_rfl) (fun _ _ _ h => h) (Or.inl ⟨by rfl, ?_⟩) (by assumption) ?_
    rotate_left
    · intro W hSw; rw [← hS] at hSw; obtain ⟨⟨_, _, ⟨s0, s1, s2, s3, s4, s5⟩, ⟨t0, t1, t2, t3, t4, t5⟩⟩, ⟨u0, u1, u2, u3, u4, u5⟩, ⟨v0, v1, v2, v3, v4, v5⟩, ⟨y0, y1, y2, y3, y4, y5⟩, ⟨z0, z1, z2, z3, z4, z5⟩, _⟩ := hSw; go_simp; with_reducible rfl
    simp only [Act.put, List.setIfInBounds_toArray, List.set_cons_zero, List.set_cons_succ]
    refine HT.one 41 rfl (by kernel_rfl) (by rfl) (fun K hK => ?_)
    go_simp
    refine (HES.out _ wl.st.below).mono ?_
    rintro e y9w ⟨rfl, hb⟩
    replace wl := wl.call hb
    clear hb
    go_simp
    refine hK.out _ _ (by rw [← hS]; exact wl) ?_
    clear hK hS0
    have hS0 := wl
    rw [hS] at hS0
    refine HT.take 42 (v := ?_) rfl (by kernel_rfl) (fun _ _ _ h => h) (Or.inl ⟨by rfl, ?_⟩) (by assumption) ?_
    rotate_left
    · intro W hSw; rw [← hS] at hSw; obtain ⟨⟨_, _, ⟨s0, s1, s2, s3, s4, s5⟩, ⟨t0, t1, t2, t3, t4, t5⟩⟩, ⟨u0, u1, u2, u3, u4, u5⟩, ⟨v0, v1, v2, v3, v4, v5⟩, ⟨y0, y1, y2, y3, y4, y5⟩, ⟨z0, z1, z2, z3, z4, z5⟩, _⟩ := hSw; go_simp; with_reducible rfl
    simp only [Act.put, List.setIfInBounds_toArray, List.set_cons_zero, List.set_cons_succ]
    refine HT.done (by kernel_rfl) ?_
    simp only [List.drop_succ_cons, List.drop_zero]
    clear hS0 hS
    go_wp2
    go_ret
    exact ⟨rfl, wl.st.below⟩

end Go.Proofs.Ytekaainjpddklaa
