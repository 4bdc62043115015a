/- Parts: SpecP. -/
import Derived.Test.YtbicoknghdgahaaGreatKD01
set_option linter.unusedVariables false
set_option linter.unusedSimpArgs false
namespace Go.Proofs.YtbicoknghdgahaaGreat
open Go.RowKit
attribute [local go_sem] run_store_float T.ord

set_option maxRecDepth 100000 in
set_option maxHeartbeats 1000000 in
theorem specCmp_ne (t1 t2 : T) (hne : t1.ord ≠ t2.ord) (w : World) (cs1 cs2 : List Value) (h1 : TAt w t1 cs1) (h2 : TAt w t2 cs2) :
  Calls Tryz.prog 239 #[.agg cs1.toArray, .agg cs2.toArray] w (CmpPost (T.cmp t1 t2) w) := by
 have HK1 := hide fun (W : World) (hb : Below w.heap.size w W) => kindRank_calls _ W _ (h1.at_ hb)
 have HK2 := hide fun (W : World) (hb : Below w.heap.size w W) => kindRank_calls _ W _ (h2.at_ hb)
 rw [cmp_kinds hne]
 have hc0 : ¬ cmpI t1.ord t2.ord = 0 := fun h => hne (cmpI_zero.1 h)
 generalize t1.ord = o1 at *
 generalize t2.ord = o2 at *
 obtain ⟨a0, a1, a2, a3, a4, a5, rfl⟩ := RVAt.six h1
 obtain ⟨b0, b1, b2, b3, b4, b5, rfl⟩ := RVAt.six h2
 have HI := fun (W : World) => hide (specInts_calls o1 o2 W)
 generalize cmpI o1 o2 = c at HI hc0
 clear h1 h2 hne
 go_enter Tryz.func239, Tryz.ntmps239
 go_wp2_with fail
 have st := W2.made w 27 a0 a1 a2 a3 a4 a5 b0 b1 b2 b3 b4 b5
 generalize World.alloc _ _ = W at st ⊢
 have hS0 : W2 w a0 a1 a2 a3 a4 a5 b0 b1 b2 b3 b4 b5 W.drew := st.drewN 1
 generalize hS : W2 w a0 a1 a2 a3 a4 a5 b0 b1 b2 b3 b4 b5 = S at hS0
 clear st
 refine wp_region_head 4 S (by rfl) (by kernel_rfl) ?_
 refine HT.take 0 (v := ?_) rfl (by kernel_rfl) (fun _ _ _ h => h) (Or.inl ⟨by rfl, ?_⟩) ‹_› ?_
 rotate_left
 ·intro W hSw; rw [← hS] at hSw; obtain ⟨_, _, ⟨s0, s1, s2, s3, s4, s5⟩, ⟨t0, t1, t2, t3, t4, t5⟩⟩ := hSw; go_simp; with_reducible rfl
 simp only [Act.put, zzA, zzZ, zzS]
 refine HT.take 2 (v := ?_) rfl (by kernel_rfl) (fun _ _ _ h => h) (Or.inl ⟨by rfl, ?_⟩) ‹_› ?_
 rotate_left
 ·intro W hSw; rw [← hS] at hSw; obtain ⟨_, _, ⟨s0, s1, s2, s3, s4, s5⟩, ⟨t0, t1, t2, t3, t4, t5⟩⟩ := hSw; go_simp; with_reducible rfl
 simp only [Act.put, zzA, zzZ, zzS]
 have st0 : W2 w a0 a1 a2 a3 a4 a5 b0 b1 b2 b3 b4 b5 W.drew := by rw [hS]; exact hS0
 refine HT.one 1 rfl (by kernel_rfl) (by rfl) (fun K hK => ?_)
 go_simp
 refine (HK1.out _ st0.below).mono ?_
 rintro e w1 ⟨rfl, hb1⟩
 have st1 := st0.call hb1
 go_simp
 refine hK.out _ _ (by rw [← hS]; exact st1) ?_
 clear hK
 refine HT.one 3 rfl (by kernel_rfl) (by rfl) (fun K hK => ?_)
 go_simp
 refine (HK2.out _ st1.below).mono ?_
 rintro e w2 ⟨rfl, hb2⟩
 have st2 := st1.call hb2
 go_simp
 refine hK.out _ _ (by rw [← hS]; exact st2) ?_
 refine HT.done (by kernel_rfl) ?_
 simp only [List.drop_succ_cons, List.drop_zero]
 clear hK hS0 hS st0 st1 hb1 hb2
 go_wp2_with fail
 refine (HI w2).out.mono ?_
 rintro e w3 ⟨rfl, rfl⟩
 go_wp2
 go_ret
 exact ⟨rfl, st2.below⟩

set_option maxRecDepth 100000 in
set_option maxHeartbeats 1000000 in
theorem specCmp_int (n m : Int) (w : World) (cs1 cs2 : List Value) (h1 : TAt w (.int n) cs1) (h2 : TAt w (.int m) cs2) :
  Calls Tryz.prog 239 #[.agg cs1.toArray, .agg cs2.toArray] w (CmpPost (cmpI n m) w) := by
 have HK1 := hide fun (W : World) (hb : Below w.heap.size w W) => kindRank_calls _ W _ (h1.at_ hb)
 have HK2 := hide fun (W : World) (hb : Below w.heap.size w W) => kindRank_calls _ W _ (h2.at_ hb)
 have HI := fun (W : World) => hide (specInts_calls (T.ord (.int n)) (T.ord (.int m)) W)
 rw [show cmpI (T.ord (.int n)) (T.ord (.int m)) = 0 from by simp [T.ord, cmpI]] at HI
 unfold TAt T.toRV at h1 h2
 cases h1 with
 | @mk _ _ _ _ _ _ KA1 LA1 kc1 lc1 xs1 g1 g2 g3 g4 g5 g6 g7 g8 g9 g10 g11 g12 g13 g14 =>
 clear g1 g2 g3 g4 g5 g6 g7 g8 g9 g10 g11 g12 g13 g14
 cases h2 with
 | @mk _ _ _ _ _ _ KA2 LA2 kc2 lc2 xs2 g1 g2 g3 g4 g5 g6 g7 g8 g9 g10 g11 g12 g13 g14 =>
 clear g1 g2 g3 g4 g5 g6 g7 g8 g9 g10 g11 g12 g13 g14
 go_enter Tryz.func239, Tryz.ntmps239
 go_wp2_with fail
 have st := W2.made w 27 (.int .i64 2) (.int .i64 n) (.float .f64 0) (.string ByteArray.empty) (.slice KA1 0 kc1) (.slice LA1 0 lc1) (.int .i64 2) (.int .i64 m) (.float .f64 0) (.string ByteArray.empty) (.slice KA2 0 kc2) (.slice LA2 0 lc2)
 generalize World.alloc _ _ = W at st ⊢
 have hS0 : W2 w (.int .i64 2) (.int .i64 n) (.float .f64 0) (.string ByteArray.empty) (.slice KA1 0 kc1) (.slice LA1 0 lc1) (.int .i64 2) (.int .i64 m) (.float .f64 0) (.string ByteArray.empty) (.slice KA2 0 kc2) (.slice LA2 0 lc2) W.drew := st.drewN 1
 generalize hS : W2 w (.int .i64 2) (.int .i64 n) (.float .f64 0) (.string ByteArray.empty) (.slice KA1 0 kc1) (.slice LA1 0 lc1) (.int .i64 2) (.int .i64 m) (.float .f64 0) (.string ByteArray.empty) (.slice KA2 0 kc2) (.slice LA2 0 lc2) = S at hS0
 clear st
 refine wp_region_head 4 S (by rfl) (by kernel_rfl) ?_
 refine HT.take 0 (v := ?_) rfl (by kernel_rfl) (fun _ _ _ h => h) (Or.inl ⟨by rfl, ?_⟩) ‹_› ?_
 rotate_left
 ·intro W hSw; rw [← hS] at hSw; obtain ⟨_, _, ⟨s0, s1, s2, s3, s4, s5⟩, ⟨t0, t1, t2, t3, t4, t5⟩⟩ := hSw; go_simp; with_reducible rfl
 simp only [Act.put, zzA, zzZ, zzS]
 refine HT.take 2 (v := ?_) rfl (by kernel_rfl) (fun _ _ _ h => h) (Or.inl ⟨by rfl, ?_⟩) ‹_› ?_
 rotate_left
 ·intro W hSw; rw [← hS] at hSw; obtain ⟨_, _, ⟨s0, s1, s2, s3, s4, s5⟩, ⟨t0, t1, t2, t3, t4, t5⟩⟩ := hSw; go_simp; with_reducible rfl
 simp only [Act.put, zzA, zzZ, zzS]
 have st0 : W2 w (.int .i64 2) (.int .i64 n) (.float .f64 0) (.string ByteArray.empty) (.slice KA1 0 kc1) (.slice LA1 0 lc1) (.int .i64 2) (.int .i64 m) (.float .f64 0) (.string ByteArray.empty) (.slice KA2 0 kc2) (.slice LA2 0 lc2) W.drew := by rw [hS]; exact hS0
 refine HT.one 1 rfl (by kernel_rfl) (by rfl) (fun K hK => ?_)
 go_simp
 refine (HK1.out _ st0.below).mono ?_
 rintro e w1 ⟨rfl, hb1⟩
 have st1 := st0.call hb1
 go_simp
 refine hK.out _ _ (by rw [← hS]; exact st1) ?_
 clear hK
 refine HT.one 3 rfl (by kernel_rfl) (by rfl) (fun K hK => ?_)
 go_simp
 refine (HK2.out _ st1.below).mono ?_
 rintro e w2 ⟨rfl, hb2⟩
 have st2 := st1.call hb2
 go_simp
 refine hK.out _ _ (by rw [← hS]; exact st2) ?_
 refine HT.done (by kernel_rfl) ?_
 simp only [List.drop_succ_cons, List.drop_zero]
 clear hK hS0 hS st0 st1 hb1 hb2
 go_wp2_with fail
 refine (HI w2).out.mono ?_
 rintro e w3 ⟨rfl, rfl⟩
 obtain ⟨p0, p1, p2, p3, p4, p5⟩ := st2.a
 go_wp2_with fail
 refine (HK1.out _ st2.below).mono ?_
 rintro e w3 ⟨rfl, hb3⟩
 have st3 := st2.call hb3
 clear p0 p1 p2 p3 p4 p5 st2 hb3
 obtain ⟨p0, p1, p2, p3, p4, p5⟩ := st3.a
 obtain ⟨q0, q1, q2, q3, q4, q5⟩ := st3.b
 go_wp2_with fail
 refine (specInts_calls n m _).mono ?_
 rintro e w4 ⟨rfl, rfl⟩
 go_wp2
 go_ret
 exact ⟨rfl, st3.below⟩

set_option maxRecDepth 100000 in
set_option maxHeartbeats 1000000 in
theorem specCmp_bool (x y : Bool) (w : World) (cs1 cs2 : List Value) (h1 : TAt w (.bool x) cs1) (h2 : TAt w (.bool y) cs2) :
  Calls Tryz.prog 239 #[.agg cs1.toArray, .agg cs2.toArray] w (CmpPost (cmpB x y) w) := by
 have HK1 := hide fun (W : World) (hb : Below w.heap.size w W) => kindRank_calls _ W _ (h1.at_ hb)
 have HK2 := hide fun (W : World) (hb : Below w.heap.size w W) => kindRank_calls _ W _ (h2.at_ hb)
 have HI := fun (W : World) => hide (specInts_calls (T.ord (.bool x)) (T.ord (.bool y)) W)
 rw [show cmpI (T.ord (.bool x)) (T.ord (.bool y)) = 0 from by simp [T.ord, cmpI]] at HI
 unfold TAt T.toRV at h1 h2
 cases h1 with
 | @mk _ _ _ _ _ _ KA1 LA1 kc1 lc1 xs1 g1 g2 g3 g4 g5 g6 g7 g8 g9 g10 g11 g12 g13 g14 =>
 clear g1 g2 g3 g4 g5 g6 g7 g8 g9 g10 g11 g12 g13 g14
 cases h2 with
 | @mk _ _ _ _ _ _ KA2 LA2 kc2 lc2 xs2 g1 g2 g3 g4 g5 g6 g7 g8 g9 g10 g11 g12 g13 g14 =>
 clear g1 g2 g3 g4 g5 g6 g7 g8 g9 g10 g11 g12 g13 g14
 have HB := fun (W : World) => hide (specInts_calls (if x then 1 else 0) (if y then 1 else 0) W)
 rw [show cmpI (if x then 1 else 0) (if y then 1 else 0) = cmpB x y from by cases x <;> cases y <;> simp [cmpI, cmpB]] at HB
 generalize cmpB x y = c at *
 generalize (if x then (1 : Int) else 0) = n at *
 generalize (if y then (1 : Int) else 0) = m at *
 go_enter Tryz.func239, Tryz.ntmps239
 go_wp2_with fail
 have st := W2.made w 27 (.int .i64 1) (.int .i64 n) (.float .f64 0) (.string ByteArray.empty) (.slice KA1 0 kc1) (.slice LA1 0 lc1) (.int .i64 1) (.int .i64 m) (.float .f64 0) (.string ByteArray.empty) (.slice KA2 0 kc2) (.slice LA2 0 lc2)
 generalize World.alloc _ _ = W at st ⊢
 have hS0 : W2 w (.int .i64 1) (.int .i64 n) (.float .f64 0) (.string ByteArray.empty) (.slice KA1 0 kc1) (.slice LA1 0 lc1) (.int .i64 1) (.int .i64 m) (.float .f64 0) (.string ByteArray.empty) (.slice KA2 0 kc2) (.slice LA2 0 lc2) W.drew := st.drewN 1
 generalize hS : W2 w (.int .i64 1) (.int .i64 n) (.float .f64 0) (.string ByteArray.empty) (.slice KA1 0 kc1) (.slice LA1 0 lc1) (.int .i64 1) (.int .i64 m) (.float .f64 0) (.string ByteArray.empty) (.slice KA2 0 kc2) (.slice LA2 0 lc2) = S at hS0
 clear st
 refine wp_region_head 4 S (by rfl) (by kernel_rfl) ?_
 refine HT.take 0 (v := ?_) rfl (by kernel_rfl) (fun _ _ _ h => h) (Or.inl ⟨by rfl, ?_⟩) ‹_› ?_
 rotate_left
 ·intro W hSw; rw [← hS] at hSw; obtain ⟨_, _, ⟨s0, s1, s2, s3, s4, s5⟩, ⟨t0, t1, t2, t3, t4, t5⟩⟩ := hSw; go_simp; with_reducible rfl
 simp only [Act.put, zzA, zzZ, zzS]
 refine HT.take 2 (v := ?_) rfl (by kernel_rfl) (fun _ _ _ h => h) (Or.inl ⟨by rfl, ?_⟩) ‹_› ?_
 rotate_left
 ·intro W hSw; rw [← hS] at hSw; obtain ⟨_, _, ⟨s0, s1, s2, s3, s4, s5⟩, ⟨t0, t1, t2, t3, t4, t5⟩⟩ := hSw; go_simp; with_reducible rfl
 simp only [Act.put, zzA, zzZ, zzS]
 have st0 : W2 w (.int .i64 1) (.int .i64 n) (.float .f64 0) (.string ByteArray.empty) (.slice KA1 0 kc1) (.slice LA1 0 lc1) (.int .i64 1) (.int .i64 m) (.float .f64 0) (.string ByteArray.empty) (.slice KA2 0 kc2) (.slice LA2 0 lc2) W.drew := by rw [hS]; exact hS0
 refine HT.one 1 rfl (by kernel_rfl) (by rfl) (fun K hK => ?_)
 go_simp
 refine (HK1.out _ st0.below).mono ?_
 rintro e w1 ⟨rfl, hb1⟩
 have st1 := st0.call hb1
 go_simp
 refine hK.out _ _ (by rw [← hS]; exact st1) ?_
 clear hK
 refine HT.one 3 rfl (by kernel_rfl) (by rfl) (fun K hK => ?_)
 go_simp
 refine (HK2.out _ st1.below).mono ?_
 rintro e w2 ⟨rfl, hb2⟩
 have st2 := st1.call hb2
 go_simp
 refine hK.out _ _ (by rw [← hS]; exact st2) ?_
 refine HT.done (by kernel_rfl) ?_
 simp only [List.drop_succ_cons, List.drop_zero]
 clear hK hS0 hS st0 st1 hb1 hb2
 go_wp2_with fail
 refine (HI w2).out.mono ?_
 rintro e w3 ⟨rfl, rfl⟩
 obtain ⟨p0, p1, p2, p3, p4, p5⟩ := st2.a
 go_wp2_with fail
 refine (HK1.out _ st2.below).mono ?_
 rintro e w3 ⟨rfl, hb3⟩
 have st3 := st2.call hb3
 clear p0 p1 p2 p3 p4 p5 st2 hb3
 obtain ⟨p0, p1, p2, p3, p4, p5⟩ := st3.a
 obtain ⟨q0, q1, q2, q3, q4, q5⟩ := st3.b
 go_wp2_with fail
 refine (HB _).out.mono ?_
 rintro e w4 ⟨rfl, rfl⟩
 go_wp2
 go_ret
 exact ⟨rfl, st3.below⟩

set_option maxRecDepth 100000 in
set_option maxHeartbeats 1000000 in
theorem specCmp_str (x y : ByteArray) (w : World) (cs1 cs2 : List Value) (h1 : TAt w (.str x) cs1) (h2 : TAt w (.str y) cs2) :
  Calls Tryz.prog 239 #[.agg cs1.toArray, .agg cs2.toArray] w (CmpPost (cmpS x y) w) := by
 have HK1 := hide fun (W : World) (hb : Below w.heap.size w W) => kindRank_calls _ W _ (h1.at_ hb)
 have HK2 := hide fun (W : World) (hb : Below w.heap.size w W) => kindRank_calls _ W _ (h2.at_ hb)
 have HI := fun (W : World) => hide (specInts_calls (T.ord (.str x)) (T.ord (.str y)) W)
 rw [show cmpI (T.ord (.str x)) (T.ord (.str y)) = 0 from by simp [T.ord, cmpI]] at HI
 unfold TAt T.toRV at h1 h2
 have hx : x.size ≤ R47 := by cases h1; assumption
 have hy : y.size ≤ R47 := by cases h2; assumption
 have HB := fun (W : World) => hide (specStrings_calls x y hx hy W)
 generalize cmpS x y = c at *
 cases h1 with
 | @mk _ _ _ _ _ _ KA1 LA1 kc1 lc1 xs1 g1 g2 g3 g4 g5 g6 g7 g8 g9 g10 g11 g12 g13 g14 =>
 clear g1 g2 g3 g4 g5 g6 g7 g8 g9 g10 g11 g12 g13 g14
 cases h2 with
 | @mk _ _ _ _ _ _ KA2 LA2 kc2 lc2 xs2 g1 g2 g3 g4 g5 g6 g7 g8 g9 g10 g11 g12 g13 g14 =>
 clear g1 g2 g3 g4 g5 g6 g7 g8 g9 g10 g11 g12 g13 g14
 go_enter Tryz.func239, Tryz.ntmps239
 go_wp2_with fail
 have st := W2.made w 27 (.int .i64 4) (.int .i64 0) (.float .f64 0) (.string x) (.slice KA1 0 kc1) (.slice LA1 0 lc1) (.int .i64 4) (.int .i64 0) (.float .f64 0) (.string y) (.slice KA2 0 kc2) (.slice LA2 0 lc2)
 generalize World.alloc _ _ = W at st ⊢
 have hS0 : W2 w (.int .i64 4) (.int .i64 0) (.float .f64 0) (.string x) (.slice KA1 0 kc1) (.slice LA1 0 lc1) (.int .i64 4) (.int .i64 0) (.float .f64 0) (.string y) (.slice KA2 0 kc2) (.slice LA2 0 lc2) W.drew := st.drewN 1
 generalize hS : W2 w (.int .i64 4) (.int .i64 0) (.float .f64 0) (.string x) (.slice KA1 0 kc1) (.slice LA1 0 lc1) (.int .i64 4) (.int .i64 0) (.float .f64 0) (.string y) (.slice KA2 0 kc2) (.slice LA2 0 lc2) = S at hS0
 clear st
 refine wp_region_head 4 S (by rfl) (by kernel_rfl) ?_
 refine HT.take 0 (v := ?_) rfl (by kernel_rfl) (fun _ _ _ h => h) (Or.inl ⟨by rfl, ?_⟩) ‹_› ?_
 rotate_left
 ·intro W hSw; rw [← hS] at hSw; obtain ⟨_, _, ⟨s0, s1, s2, s3, s4, s5⟩, ⟨t0, t1, t2, t3, t4, t5⟩⟩ := hSw; go_simp; with_reducible rfl
 simp only [Act.put, zzA, zzZ, zzS]
 refine HT.take 2 (v := ?_) rfl (by kernel_rfl) (fun _ _ _ h => h) (Or.inl ⟨by rfl, ?_⟩) ‹_› ?_
 rotate_left
 ·intro W hSw; rw [← hS] at hSw; obtain ⟨_, _, ⟨s0, s1, s2, s3, s4, s5⟩, ⟨t0, t1, t2, t3, t4, t5⟩⟩ := hSw; go_simp; with_reducible rfl
 simp only [Act.put, zzA, zzZ, zzS]
 have st0 : W2 w (.int .i64 4) (.int .i64 0) (.float .f64 0) (.string x) (.slice KA1 0 kc1) (.slice LA1 0 lc1) (.int .i64 4) (.int .i64 0) (.float .f64 0) (.string y) (.slice KA2 0 kc2) (.slice LA2 0 lc2) W.drew := by rw [hS]; exact hS0
 refine HT.one 1 rfl (by kernel_rfl) (by rfl) (fun K hK => ?_)
 go_simp
 refine (HK1.out _ st0.below).mono ?_
 rintro e w1 ⟨rfl, hb1⟩
 have st1 := st0.call hb1
 go_simp
 refine hK.out _ _ (by rw [← hS]; exact st1) ?_
 clear hK
 refine HT.one 3 rfl (by kernel_rfl) (by rfl) (fun K hK => ?_)
 go_simp
 refine (HK2.out _ st1.below).mono ?_
 rintro e w2 ⟨rfl, hb2⟩
 have st2 := st1.call hb2
 go_simp
 refine hK.out _ _ (by rw [← hS]; exact st2) ?_
 refine HT.done (by kernel_rfl) ?_
 simp only [List.drop_succ_cons, List.drop_zero]
 clear hK hS0 hS st0 st1 hb1 hb2
 go_wp2_with fail
 refine (HI w2).out.mono ?_
 rintro e w3 ⟨rfl, rfl⟩
 obtain ⟨p0, p1, p2, p3, p4, p5⟩ := st2.a
 go_wp2_with fail
 refine (HK1.out _ st2.below).mono ?_
 rintro e w3 ⟨rfl, hb3⟩
 have st3 := st2.call hb3
 clear p0 p1 p2 p3 p4 p5 st2 hb3
 obtain ⟨p0, p1, p2, p3, p4, p5⟩ := st3.a
 obtain ⟨q0, q1, q2, q3, q4, q5⟩ := st3.b
 go_wp2_with fail
 refine (HB w3).out.mono ?_
 rintro e w4 ⟨rfl, hb4⟩
 have Hb4 := hide (st3.below.trans (hb4.mono st3.below.size))
 clear hb4
 go_wp2
 go_ret
 exact ⟨rfl, Hb4.out⟩

set_option maxRecDepth 100000 in
set_option maxHeartbeats 1000000 in
theorem specCmp_null  (w : World) (cs1 cs2 : List Value) (h1 : TAt w .null cs1) (h2 : TAt w .null cs2) :
  Calls Tryz.prog 239 #[.agg cs1.toArray, .agg cs2.toArray] w (CmpPost (0) w) := by
 have HK1 := hide fun (W : World) (hb : Below w.heap.size w W) => kindRank_calls _ W _ (h1.at_ hb)
 have HK2 := hide fun (W : World) (hb : Below w.heap.size w W) => kindRank_calls _ W _ (h2.at_ hb)
 have HI := fun (W : World) => hide (specInts_calls (T.ord .null) (T.ord .null) W)
 rw [show cmpI (T.ord .null) (T.ord .null) = 0 from by simp [T.ord, cmpI]] at HI
 unfold TAt T.toRV at h1 h2
 cases h1 with
 | @mk _ _ _ _ _ _ KA1 LA1 kc1 lc1 xs1 g1 g2 g3 g4 g5 g6 g7 g8 g9 g10 g11 g12 g13 g14 =>
 clear g1 g2 g3 g4 g5 g6 g7 g8 g9 g10 g11 g12 g13 g14
 cases h2 with
 | @mk _ _ _ _ _ _ KA2 LA2 kc2 lc2 xs2 g1 g2 g3 g4 g5 g6 g7 g8 g9 g10 g11 g12 g13 g14 =>
 clear g1 g2 g3 g4 g5 g6 g7 g8 g9 g10 g11 g12 g13 g14
 go_enter Tryz.func239, Tryz.ntmps239
 go_wp2_with fail
 have st := W2.made w 27 (.int .i64 0) (.int .i64 0) (.float .f64 0) (.string ByteArray.empty) (.slice KA1 0 kc1) (.slice LA1 0 lc1) (.int .i64 0) (.int .i64 0) (.float .f64 0) (.string ByteArray.empty) (.slice KA2 0 kc2) (.slice LA2 0 lc2)
 generalize World.alloc _ _ = W at st ⊢
 have hS0 : W2 w (.int .i64 0) (.int .i64 0) (.float .f64 0) (.string ByteArray.empty) (.slice KA1 0 kc1) (.slice LA1 0 lc1) (.int .i64 0) (.int .i64 0) (.float .f64 0) (.string ByteArray.empty) (.slice KA2 0 kc2) (.slice LA2 0 lc2) W.drew := st.drewN 1
 generalize hS : W2 w (.int .i64 0) (.int .i64 0) (.float .f64 0) (.string ByteArray.empty) (.slice KA1 0 kc1) (.slice LA1 0 lc1) (.int .i64 0) (.int .i64 0) (.float .f64 0) (.string ByteArray.empty) (.slice KA2 0 kc2) (.slice LA2 0 lc2) = S at hS0
 clear st
 refine wp_region_head 4 S (by rfl) (by kernel_rfl) ?_
 refine HT.take 0 (v := ?_) rfl (by kernel_rfl) (fun _ _ _ h => h) (Or.inl ⟨by rfl, ?_⟩) ‹_› ?_
 rotate_left
 ·intro W hSw; rw [← hS] at hSw; obtain ⟨_, _, ⟨s0, s1, s2, s3, s4, s5⟩, ⟨t0, t1, t2, t3, t4, t5⟩⟩ := hSw; go_simp; with_reducible rfl
 simp only [Act.put, zzA, zzZ, zzS]
 refine HT.take 2 (v := ?_) rfl (by kernel_rfl) (fun _ _ _ h => h) (Or.inl ⟨by rfl, ?_⟩) ‹_› ?_
 rotate_left
 ·intro W hSw; rw [← hS] at hSw; obtain ⟨_, _, ⟨s0, s1, s2, s3, s4, s5⟩, ⟨t0, t1, t2, t3, t4, t5⟩⟩ := hSw; go_simp; with_reducible rfl
 simp only [Act.put, zzA, zzZ, zzS]
 have st0 : W2 w (.int .i64 0) (.int .i64 0) (.float .f64 0) (.string ByteArray.empty) (.slice KA1 0 kc1) (.slice LA1 0 lc1) (.int .i64 0) (.int .i64 0) (.float .f64 0) (.string ByteArray.empty) (.slice KA2 0 kc2) (.slice LA2 0 lc2) W.drew := by rw [hS]; exact hS0
 refine HT.one 1 rfl (by kernel_rfl) (by rfl) (fun K hK => ?_)
 go_simp
 refine (HK1.out _ st0.below).mono ?_
 rintro e w1 ⟨rfl, hb1⟩
 have st1 := st0.call hb1
 go_simp
 refine hK.out _ _ (by rw [← hS]; exact st1) ?_
 clear hK
 refine HT.one 3 rfl (by kernel_rfl) (by rfl) (fun K hK => ?_)
 go_simp
 refine (HK2.out _ st1.below).mono ?_
 rintro e w2 ⟨rfl, hb2⟩
 have st2 := st1.call hb2
 go_simp
 refine hK.out _ _ (by rw [← hS]; exact st2) ?_
 refine HT.done (by kernel_rfl) ?_
 simp only [List.drop_succ_cons, List.drop_zero]
 clear hK hS0 hS st0 st1 hb1 hb2
 go_wp2_with fail
 refine (HI w2).out.mono ?_
 rintro e w3 ⟨rfl, rfl⟩
 obtain ⟨p0, p1, p2, p3, p4, p5⟩ := st2.a
 go_wp2_with fail
 refine (HK1.out _ st2.below).mono ?_
 rintro e w3 ⟨rfl, hb3⟩
 have st3 := st2.call hb3
 clear p0 p1 p2 p3 p4 p5 st2 hb3
 obtain ⟨p0, p1, p2, p3, p4, p5⟩ := st3.a
 obtain ⟨q0, q1, q2, q3, q4, q5⟩ := st3.b
 go_wp2
 go_ret
 exact ⟨rfl, st3.below⟩

set_option maxRecDepth 100000 in
set_option maxHeartbeats 1000000 in
theorem specCmp_list (l1 l2 : List T) (hok : ∀ a ∈ l1, ∀ b ∈ l2, SpecCmpOK a b) (w : World) (cs1 cs2 : List Value) (h1 : TAt w (.list l1) cs1) (h2 : TAt w (.list l2) cs2) :
  Calls Tryz.prog 239 #[.agg cs1.toArray, .agg cs2.toArray] w (CmpPost (T.cmpL l1 l2) w) := by
 have HK1 := hide fun (W : World) (hb : Below w.heap.size w W) => kindRank_calls _ W _ (h1.at_ hb)
 have HK2 := hide fun (W : World) (hb : Below w.heap.size w W) => kindRank_calls _ W _ (h2.at_ hb)
 have HI := fun (W : World) => hide (specInts_calls (T.ord (.list l1)) (T.ord (.list l2)) W)
 rw [show cmpI (T.ord (.list l1)) (T.ord (.list l2)) = 0 from by simp [T.ord, cmpI]] at HI
 obtain ⟨KA1, kc1, LA1, lc1, rfl, hx1, hb1⟩ := h1.list_
 obtain ⟨KA2, kc2, LA2, lc2, rfl, hx2, hb2⟩ := h2.list_
 have HB := fun (W : World) (hb : Below w.heap.size w W) => hide (specLists_calls l1 l2 hok LA1 LA2 lc1 lc2 W hb1 hb2 (hx1.at_ hb) (hx2.at_ hb))
 generalize T.cmpL l1 l2 = c at *
 clear hok hx1 hx2 hb1 hb2 h1 h2
 go_enter Tryz.func239, Tryz.ntmps239
 go_wp2_with fail
 have st := W2.made w 27 (.int .i64 5) (.int .i64 0) (.float .f64 0) (.string ByteArray.empty) (.slice KA1 0 kc1) (.slice LA1 l1.length lc1) (.int .i64 5) (.int .i64 0) (.float .f64 0) (.string ByteArray.empty) (.slice KA2 0 kc2) (.slice LA2 l2.length lc2)
 generalize World.alloc _ _ = W at st ⊢
 have hS0 : W2 w (.int .i64 5) (.int .i64 0) (.float .f64 0) (.string ByteArray.empty) (.slice KA1 0 kc1) (.slice LA1 l1.length lc1) (.int .i64 5) (.int .i64 0) (.float .f64 0) (.string ByteArray.empty) (.slice KA2 0 kc2) (.slice LA2 l2.length lc2) W.drew := st.drewN 1
 generalize hS : W2 w (.int .i64 5) (.int .i64 0) (.float .f64 0) (.string ByteArray.empty) (.slice KA1 0 kc1) (.slice LA1 l1.length lc1) (.int .i64 5) (.int .i64 0) (.float .f64 0) (.string ByteArray.empty) (.slice KA2 0 kc2) (.slice LA2 l2.length lc2) = S at hS0
 clear st
 refine wp_region_head 4 S (by rfl) (by kernel_rfl) ?_
 refine HT.take 0 (v := ?_) rfl (by kernel_rfl) (fun _ _ _ h => h) (Or.inl ⟨by rfl, ?_⟩) ‹_› ?_
 rotate_left
 ·intro W hSw; rw [← hS] at hSw; obtain ⟨_, _, ⟨s0, s1, s2, s3, s4, s5⟩, ⟨t0, t1, t2, t3, t4, t5⟩⟩ := hSw; go_simp; with_reducible rfl
 simp only [Act.put, zzA, zzZ, zzS]
 refine HT.take 2 (v := ?_) rfl (by kernel_rfl) (fun _ _ _ h => h) (Or.inl ⟨by rfl, ?_⟩) ‹_› ?_
 rotate_left
 ·intro W hSw; rw [← hS] at hSw; obtain ⟨_, _, ⟨s0, s1, s2, s3, s4, s5⟩, ⟨t0, t1, t2, t3, t4, t5⟩⟩ := hSw; go_simp; with_reducible rfl
 simp only [Act.put, zzA, zzZ, zzS]
 have st0 : W2 w (.int .i64 5) (.int .i64 0) (.float .f64 0) (.string ByteArray.empty) (.slice KA1 0 kc1) (.slice LA1 l1.length lc1) (.int .i64 5) (.int .i64 0) (.float .f64 0) (.string ByteArray.empty) (.slice KA2 0 kc2) (.slice LA2 l2.length lc2) W.drew := by rw [hS]; exact hS0
 refine HT.one 1 rfl (by kernel_rfl) (by rfl) (fun K hK => ?_)
 go_simp
 refine (HK1.out _ st0.below).mono ?_
 rintro e w1 ⟨rfl, hb1⟩
 have st1 := st0.call hb1
 go_simp
 refine hK.out _ _ (by rw [← hS]; exact st1) ?_
 clear hK
 refine HT.one 3 rfl (by kernel_rfl) (by rfl) (fun K hK => ?_)
 go_simp
 refine (HK2.out _ st1.below).mono ?_
 rintro e w2 ⟨rfl, hb2⟩
 have st2 := st1.call hb2
 go_simp
 refine hK.out _ _ (by rw [← hS]; exact st2) ?_
 refine HT.done (by kernel_rfl) ?_
 simp only [List.drop_succ_cons, List.drop_zero]
 clear hK hS0 hS st0 st1 hb1 hb2
 go_wp2_with fail
 refine (HI w2).out.mono ?_
 rintro e w3 ⟨rfl, rfl⟩
 obtain ⟨p0, p1, p2, p3, p4, p5⟩ := st2.a
 go_wp2_with fail
 refine (HK1.out _ st2.below).mono ?_
 rintro e w3 ⟨rfl, hb3⟩
 have st3 := st2.call hb3
 clear p0 p1 p2 p3 p4 p5 st2 hb3
 obtain ⟨p0, p1, p2, p3, p4, p5⟩ := st3.a
 obtain ⟨q0, q1, q2, q3, q4, q5⟩ := st3.b
 go_wp2_with fail
 refine (HB w3 st3.below).out.mono ?_
 rintro e w4 ⟨rfl, hb4⟩
 have Hb4 := hide (st3.below.trans (hb4.mono st3.below.size))
 clear hb4
 go_wp2
 go_ret
 exact ⟨rfl, Hb4.out⟩

set_option maxRecDepth 100000 in
set_option maxHeartbeats 1000000 in
theorem specCmp_map (l1 l2 : List (ByteArray × T)) (hok : ∀ k a, (k, a) ∈ l1 → ∀ j b, (j, b) ∈ l2 → SpecCmpOK a b) (w : World) (cs1 cs2 : List Value) (h1 : TAt w (.map l1) cs1) (h2 : TAt w (.map l2) cs2) :
  Calls Tryz.prog 239 #[.agg cs1.toArray, .agg cs2.toArray] w (CmpPost (T.cmpM l1 l2) w) := by
 have HK1 := hide fun (W : World) (hb : Below w.heap.size w W) => kindRank_calls _ W _ (h1.at_ hb)
 have HK2 := hide fun (W : World) (hb : Below w.heap.size w W) => kindRank_calls _ W _ (h2.at_ hb)
 have HI := fun (W : World) => hide (specInts_calls (T.ord (.map l1)) (T.ord (.map l2)) W)
 rw [show cmpI (T.ord (.map l1)) (T.ord (.map l2)) = 0 from by simp [T.ord, cmpI]] at HI
 have HB := fun (W : World) (hb : Below w.heap.size w W) => hide (specMaps_calls l1 l2 hok W cs1 cs2 (h1.at_ hb) (h2.at_ hb))
 obtain ⟨KA1, kc1, LA1, lc1, rfl, _, _, _⟩ := h1.map_
 obtain ⟨KA2, kc2, LA2, lc2, rfl, _, _, _⟩ := h2.map_
 generalize T.cmpM l1 l2 = c at *
 clear hok h1 h2
 go_enter Tryz.func239, Tryz.ntmps239
 go_wp2_with fail
 have st := W2.made w 27 (.int .i64 6) (.int .i64 0) (.float .f64 0) (.string ByteArray.empty) (.slice KA1 l1.length kc1) (.slice LA1 l1.length lc1) (.int .i64 6) (.int .i64 0) (.float .f64 0) (.string ByteArray.empty) (.slice KA2 l2.length kc2) (.slice LA2 l2.length lc2)
 generalize World.alloc _ _ = W at st ⊢
 have hS0 : W2 w (.int .i64 6) (.int .i64 0) (.float .f64 0) (.string ByteArray.empty) (.slice KA1 l1.length kc1) (.slice LA1 l1.length lc1) (.int .i64 6) (.int .i64 0) (.float .f64 0) (.string ByteArray.empty) (.slice KA2 l2.length kc2) (.slice LA2 l2.length lc2) W.drew := st.drewN 1
 generalize hS : W2 w (.int .i64 6) (.int .i64 0) (.float .f64 0) (.string ByteArray.empty) (.slice KA1 l1.length kc1) (.slice LA1 l1.length lc1) (.int .i64 6) (.int .i64 0) (.float .f64 0) (.string ByteArray.empty) (.slice KA2 l2.length kc2) (.slice LA2 l2.length lc2) = S at hS0
 clear st
 refine wp_region_head 4 S (by rfl) (by kernel_rfl) ?_
 refine HT.take 0 (v := ?_) rfl (by kernel_rfl) (fun _ _ _ h => h) (Or.inl ⟨by rfl, ?_⟩) ‹_› ?_
 rotate_left
 ·intro W hSw; rw [← hS] at hSw; obtain ⟨_, _, ⟨s0, s1, s2, s3, s4, s5⟩, ⟨t0, t1, t2, t3, t4, t5⟩⟩ := hSw; go_simp; with_reducible rfl
 simp only [Act.put, zzA, zzZ, zzS]
 refine HT.take 2 (v := ?_) rfl (by kernel_rfl) (fun _ _ _ h => h) (Or.inl ⟨by rfl, ?_⟩) ‹_› ?_
 rotate_left
 ·intro W hSw; rw [← hS] at hSw; obtain ⟨_, _, ⟨s0, s1, s2, s3, s4, s5⟩, ⟨t0, t1, t2, t3, t4, t5⟩⟩ := hSw; go_simp; with_reducible rfl
 simp only [Act.put, zzA, zzZ, zzS]
 have st0 : W2 w (.int .i64 6) (.int .i64 0) (.float .f64 0) (.string ByteArray.empty) (.slice KA1 l1.length kc1) (.slice LA1 l1.length lc1) (.int .i64 6) (.int .i64 0) (.float .f64 0) (.string ByteArray.empty) (.slice KA2 l2.length kc2) (.slice LA2 l2.length lc2) W.drew := by rw [hS]; exact hS0
 refine HT.one 1 rfl (by kernel_rfl) (by rfl) (fun K hK => ?_)
 go_simp
 refine (HK1.out _ st0.below).mono ?_
 rintro e w1 ⟨rfl, hb1⟩
 have st1 := st0.call hb1
 go_simp
 refine hK.out _ _ (by rw [← hS]; exact st1) ?_
 clear hK
 refine HT.one 3 rfl (by kernel_rfl) (by rfl) (fun K hK => ?_)
 go_simp
 refine (HK2.out _ st1.below).mono ?_
 rintro e w2 ⟨rfl, hb2⟩
 have st2 := st1.call hb2
 go_simp
 refine hK.out _ _ (by rw [← hS]; exact st2) ?_
 refine HT.done (by kernel_rfl) ?_
 simp only [List.drop_succ_cons, List.drop_zero]
 clear hK hS0 hS st0 st1 hb1 hb2
 go_wp2_with fail
 refine (HI w2).out.mono ?_
 rintro e w3 ⟨rfl, rfl⟩
 obtain ⟨p0, p1, p2, p3, p4, p5⟩ := st2.a
 go_wp2_with fail
 refine (HK1.out _ st2.below).mono ?_
 rintro e w3 ⟨rfl, hb3⟩
 have st3 := st2.call hb3
 clear p0 p1 p2 p3 p4 p5 st2 hb3
 obtain ⟨p0, p1, p2, p3, p4, p5⟩ := st3.a
 obtain ⟨q0, q1, q2, q3, q4, q5⟩ := st3.b
 go_wp2_with fail
 refine (HB w3 st3.below).out.mono ?_
 rintro e w4 ⟨rfl, hb4⟩
 have Hb4 := hide (st3.below.trans (hb4.mono st3.below.size))
 clear hb4
 go_wp2
 go_ret
 exact ⟨rfl, Hb4.out⟩

set_option maxRecDepth 100000 in
set_option maxHeartbeats 1000000 in
theorem specCmp_if (n : Int) (f : Nat) (w : World) (cs1 cs2 : List Value) (h1 : TAt w (.int n) cs1) (h2 : TAt w (.flt f) cs2) :
  Calls Tryz.prog 239 #[.agg cs1.toArray, .agg cs2.toArray] w (CmpPost (fcmp (toF n) f) w) := by
 have HK1 := hide fun (W : World) (hb : Below w.heap.size w W) => kindRank_calls _ W _ (h1.at_ hb)
 have HK2 := hide fun (W : World) (hb : Below w.heap.size w W) => kindRank_calls _ W _ (h2.at_ hb)
 have HI := fun (W : World) => hide (specInts_calls (T.ord (.int n)) (T.ord (.flt f)) W)
 rw [show cmpI (T.ord (.int n)) (T.ord (.flt f)) = 0 from by simp [T.ord, cmpI]] at HI
 have HF1 := hide fun (W : World) (hb : Below w.heap.size w W) => asFloat_calls _ W _ (h1.at_ hb) (by rfl)
 have HF2 := hide fun (W : World) (hb : Below w.heap.size w W) => asFloat_calls _ W _ (h2.at_ hb) (by rfl)
 unfold TAt T.toRV at h1 h2
 cases h1 with
 | @mk _ _ _ _ _ _ KA1 LA1 kc1 lc1 xs1 g1 g2 g3 g4 g5 g6 g7 g8 g9 g10 g11 g12 g13 g14 =>
 clear g1 g2 g3 g4 g5 g6 g7 g8 g9 g10 g11 g12 g13 g14
 cases h2 with
 | @mk _ _ _ _ _ _ KA2 LA2 kc2 lc2 xs2 g1 g2 g3 g4 g5 g6 g7 g8 g9 g10 g11 g12 g13 g14 =>
 clear g1 g2 g3 g4 g5 g6 g7 g8 g9 g10 g11 g12 g13 g14
 go_enter Tryz.func239, Tryz.ntmps239
 go_wp2_with fail
 have st := W2.made w 27 (.int .i64 2) (.int .i64 n) (.float .f64 0) (.string ByteArray.empty) (.slice KA1 0 kc1) (.slice LA1 0 lc1) (.int .i64 3) (.int .i64 0) (.float .f64 f) (.string ByteArray.empty) (.slice KA2 0 kc2) (.slice LA2 0 lc2)
 generalize World.alloc _ _ = W at st ⊢
 have hS0 : W2 w (.int .i64 2) (.int .i64 n) (.float .f64 0) (.string ByteArray.empty) (.slice KA1 0 kc1) (.slice LA1 0 lc1) (.int .i64 3) (.int .i64 0) (.float .f64 f) (.string ByteArray.empty) (.slice KA2 0 kc2) (.slice LA2 0 lc2) W.drew := st.drewN 1
 generalize hS : W2 w (.int .i64 2) (.int .i64 n) (.float .f64 0) (.string ByteArray.empty) (.slice KA1 0 kc1) (.slice LA1 0 lc1) (.int .i64 3) (.int .i64 0) (.float .f64 f) (.string ByteArray.empty) (.slice KA2 0 kc2) (.slice LA2 0 lc2) = S at hS0
 clear st
 refine wp_region_head 4 S (by rfl) (by kernel_rfl) ?_
 refine HT.take 0 (v := ?_) rfl (by kernel_rfl) (fun _ _ _ h => h) (Or.inl ⟨by rfl, ?_⟩) ‹_› ?_
 rotate_left
 ·intro W hSw; rw [← hS] at hSw; obtain ⟨_, _, ⟨s0, s1, s2, s3, s4, s5⟩, ⟨t0, t1, t2, t3, t4, t5⟩⟩ := hSw; go_simp; with_reducible rfl
 simp only [Act.put, zzA, zzZ, zzS]
 refine HT.take 2 (v := ?_) rfl (by kernel_rfl) (fun _ _ _ h => h) (Or.inl ⟨by rfl, ?_⟩) ‹_› ?_
 rotate_left
 ·intro W hSw; rw [← hS] at hSw; obtain ⟨_, _, ⟨s0, s1, s2, s3, s4, s5⟩, ⟨t0, t1, t2, t3, t4, t5⟩⟩ := hSw; go_simp; with_reducible rfl
 simp only [Act.put, zzA, zzZ, zzS]
 have st0 : W2 w (.int .i64 2) (.int .i64 n) (.float .f64 0) (.string ByteArray.empty) (.slice KA1 0 kc1) (.slice LA1 0 lc1) (.int .i64 3) (.int .i64 0) (.float .f64 f) (.string ByteArray.empty) (.slice KA2 0 kc2) (.slice LA2 0 lc2) W.drew := by rw [hS]; exact hS0
 refine HT.one 1 rfl (by kernel_rfl) (by rfl) (fun K hK => ?_)
 go_simp
 refine (HK1.out _ st0.below).mono ?_
 rintro e w1 ⟨rfl, hb1⟩
 have st1 := st0.call hb1
 go_simp
 refine hK.out _ _ (by rw [← hS]; exact st1) ?_
 clear hK
 refine HT.one 3 rfl (by kernel_rfl) (by rfl) (fun K hK => ?_)
 go_simp
 refine (HK2.out _ st1.below).mono ?_
 rintro e w2 ⟨rfl, hb2⟩
 have st2 := st1.call hb2
 go_simp
 refine hK.out _ _ (by rw [← hS]; exact st2) ?_
 refine HT.done (by kernel_rfl) ?_
 simp only [List.drop_succ_cons, List.drop_zero]
 clear hK hS0 hS st0 st1 hb1 hb2
 go_wp2_with fail
 refine (HI w2).out.mono ?_
 rintro e w3 ⟨rfl, rfl⟩
 obtain ⟨p0, p1, p2, p3, p4, p5⟩ := st2.a
 go_wp2_with fail
 refine (HK1.out _ st2.below).mono ?_
 rintro e w3 ⟨rfl, hb3⟩
 have st3 := st2.call hb3
 clear p0 p1 p2 p3 p4 p5 st2 hb3
 obtain ⟨p0, p1, p2, p3, p4, p5⟩ := st3.a
 obtain ⟨q0, q1, q2, q3, q4, q5⟩ := st3.b
 go_wp2_with fail
 have hS0 : W2 w (.int .i64 2) (.int .i64 n) (.float .f64 0) (.string ByteArray.empty) (.slice KA1 0 kc1) (.slice LA1 0 lc1) (.int .i64 3) (.int .i64 0) (.float .f64 f) (.string ByteArray.empty) (.slice KA2 0 kc2) (.slice LA2 0 lc2) w3.drew := st3.drewN 1
 generalize hS : W2 w (.int .i64 2) (.int .i64 n) (.float .f64 0) (.string ByteArray.empty) (.slice KA1 0 kc1) (.slice LA1 0 lc1) (.int .i64 3) (.int .i64 0) (.float .f64 f) (.string ByteArray.empty) (.slice KA2 0 kc2) (.slice LA2 0 lc2) = S at hS0
 clear p0 p1 p2 p3 p4 p5 q0 q1 q2 q3 q4 q5 st3
 refine wp_region_head 4 S (by rfl) (by kernel_rfl) ?_
 refine HT.take 0 (v := ?_) rfl (by kernel_rfl) (fun _ _ _ h => h) (Or.inl ⟨by rfl, ?_⟩) ‹_› ?_
 rotate_left
 ·intro W hSw; rw [← hS] at hSw; obtain ⟨_, _, ⟨s0, s1, s2, s3, s4, s5⟩, ⟨t0, t1, t2, t3, t4, t5⟩⟩ := hSw; go_simp; with_reducible rfl
 simp only [Act.put, zzA, zzZ, zzS]
 refine HT.take 2 (v := ?_) rfl (by kernel_rfl) (fun _ _ _ h => h) (Or.inl ⟨by rfl, ?_⟩) ‹_› ?_
 rotate_left
 ·intro W hSw; rw [← hS] at hSw; obtain ⟨_, _, ⟨s0, s1, s2, s3, s4, s5⟩, ⟨t0, t1, t2, t3, t4, t5⟩⟩ := hSw; go_simp; with_reducible rfl
 simp only [Act.put, zzA, zzZ, zzS]
 have st0 : W2 w (.int .i64 2) (.int .i64 n) (.float .f64 0) (.string ByteArray.empty) (.slice KA1 0 kc1) (.slice LA1 0 lc1) (.int .i64 3) (.int .i64 0) (.float .f64 f) (.string ByteArray.empty) (.slice KA2 0 kc2) (.slice LA2 0 lc2) w3.drew := by rw [hS]; exact hS0
 refine HT.one 1 rfl (by kernel_rfl) (by rfl) (fun K hK => ?_)
 go_simp
 refine (HF1.out _ st0.below).mono ?_
 rintro e w4 ⟨rfl, hb1⟩
 have st1 := st0.call hb1
 go_simp
 refine hK.out _ _ (by rw [← hS]; exact st1) ?_
 clear hK
 refine HT.one 3 rfl (by kernel_rfl) (by rfl) (fun K hK => ?_)
 go_simp
 refine (HF2.out _ st1.below).mono ?_
 rintro e w5 ⟨rfl, hb2⟩
 have st2 := st1.call hb2
 go_simp
 refine hK.out _ _ (by rw [← hS]; exact st2) ?_
 refine HT.done (by kernel_rfl) ?_
 simp only [List.drop_succ_cons, List.drop_zero]
 clear hK hS0 hS st0 st1 hb1 hb2
 go_wp2_with fail
 refine (specFloats_calls _ _ _).mono ?_
 rintro e w6 ⟨rfl, rfl⟩
 go_wp2
 go_ret
 exact ⟨rfl, st2.below⟩

set_option maxRecDepth 100000 in
set_option maxHeartbeats 1000000 in
theorem specCmp_fi (f : Nat) (n : Int) (w : World) (cs1 cs2 : List Value) (h1 : TAt w (.flt f) cs1) (h2 : TAt w (.int n) cs2) :
  Calls Tryz.prog 239 #[.agg cs1.toArray, .agg cs2.toArray] w (CmpPost (fcmp f (toF n)) w) := by
 have HK1 := hide fun (W : World) (hb : Below w.heap.size w W) => kindRank_calls _ W _ (h1.at_ hb)
 have HK2 := hide fun (W : World) (hb : Below w.heap.size w W) => kindRank_calls _ W _ (h2.at_ hb)
 have HI := fun (W : World) => hide (specInts_calls (T.ord (.flt f)) (T.ord (.int n)) W)
 rw [show cmpI (T.ord (.flt f)) (T.ord (.int n)) = 0 from by simp [T.ord, cmpI]] at HI
 have HF1 := hide fun (W : World) (hb : Below w.heap.size w W) => asFloat_calls _ W _ (h1.at_ hb) (by rfl)
 have HF2 := hide fun (W : World) (hb : Below w.heap.size w W) => asFloat_calls _ W _ (h2.at_ hb) (by rfl)
 unfold TAt T.toRV at h1 h2
 cases h1 with
 | @mk _ _ _ _ _ _ KA1 LA1 kc1 lc1 xs1 g1 g2 g3 g4 g5 g6 g7 g8 g9 g10 g11 g12 g13 g14 =>
 clear g1 g2 g3 g4 g5 g6 g7 g8 g9 g10 g11 g12 g13 g14
 cases h2 with
 | @mk _ _ _ _ _ _ KA2 LA2 kc2 lc2 xs2 g1 g2 g3 g4 g5 g6 g7 g8 g9 g10 g11 g12 g13 g14 =>
 clear g1 g2 g3 g4 g5 g6 g7 g8 g9 g10 g11 g12 g13 g14
 go_enter Tryz.func239, Tryz.ntmps239
 go_wp2_with fail
 have st := W2.made w 27 (.int .i64 3) (.int .i64 0) (.float .f64 f) (.string ByteArray.empty) (.slice KA1 0 kc1) (.slice LA1 0 lc1) (.int .i64 2) (.int .i64 n) (.float .f64 0) (.string ByteArray.empty) (.slice KA2 0 kc2) (.slice LA2 0 lc2)
 generalize World.alloc _ _ = W at st ⊢
 have hS0 : W2 w (.int .i64 3) (.int .i64 0) (.float .f64 f) (.string ByteArray.empty) (.slice KA1 0 kc1) (.slice LA1 0 lc1) (.int .i64 2) (.int .i64 n) (.float .f64 0) (.string ByteArray.empty) (.slice KA2 0 kc2) (.slice LA2 0 lc2) W.drew := st.drewN 1
 generalize hS : W2 w (.int .i64 3) (.int .i64 0) (.float .f64 f) (.string ByteArray.empty) (.slice KA1 0 kc1) (.slice LA1 0 lc1) (.int .i64 2) (.int .i64 n) (.float .f64 0) (.string ByteArray.empty) (.slice KA2 0 kc2) (.slice LA2 0 lc2) = S at hS0
 clear st
 refine wp_region_head 4 S (by rfl) (by kernel_rfl) ?_
 refine HT.take 0 (v := ?_) rfl (by kernel_rfl) (fun _ _ _ h => h) (Or.inl ⟨by rfl, ?_⟩) ‹_› ?_
 rotate_left
 ·intro W hSw; rw [← hS] at hSw; obtain ⟨_, _, ⟨s0, s1, s2, s3, s4, s5⟩, ⟨t0, t1, t2, t3, t4, t5⟩⟩ := hSw; go_simp; with_reducible rfl
 simp only [Act.put, zzA, zzZ, zzS]
 refine HT.take 2 (v := ?_) rfl (by kernel_rfl) (fun _ _ _ h => h) (Or.inl ⟨by rfl, ?_⟩) ‹_› ?_
 rotate_left
 ·intro W hSw; rw [← hS] at hSw; obtain ⟨_, _, ⟨s0, s1, s2, s3, s4, s5⟩, ⟨t0, t1, t2, t3, t4, t5⟩⟩ := hSw; go_simp; with_reducible rfl
 simp only [Act.put, zzA, zzZ, zzS]
 have st0 : W2 w (.int .i64 3) (.int .i64 0) (.float .f64 f) (.string ByteArray.empty) (.slice KA1 0 kc1) (.slice LA1 0 lc1) (.int .i64 2) (.int .i64 n) (.float .f64 0) (.string ByteArray.empty) (.slice KA2 0 kc2) (.slice LA2 0 lc2) W.drew := by rw [hS]; exact hS0
 refine HT.one 1 rfl (by kernel_rfl) (by rfl) (fun K hK => ?_)
 go_simp
 refine (HK1.out _ st0.below).mono ?_
 rintro e w1 ⟨rfl, hb1⟩
 have st1 := st0.call hb1
 go_simp
 refine hK.out _ _ (by rw [← hS]; exact st1) ?_
 clear hK
 refine HT.one 3 rfl (by kernel_rfl) (by rfl) (fun K hK => ?_)
 go_simp
 refine (HK2.out _ st1.below).mono ?_
 rintro e w2 ⟨rfl, hb2⟩
 have st2 := st1.call hb2
 go_simp
 refine hK.out _ _ (by rw [← hS]; exact st2) ?_
 refine HT.done (by kernel_rfl) ?_
 simp only [List.drop_succ_cons, List.drop_zero]
 clear hK hS0 hS st0 st1 hb1 hb2
 go_wp2_with fail
 refine (HI w2).out.mono ?_
 rintro e w3 ⟨rfl, rfl⟩
 obtain ⟨p0, p1, p2, p3, p4, p5⟩ := st2.a
 go_wp2_with fail
 refine (HK1.out _ st2.below).mono ?_
 rintro e w3 ⟨rfl, hb3⟩
 have st3 := st2.call hb3
 clear p0 p1 p2 p3 p4 p5 st2 hb3
 obtain ⟨p0, p1, p2, p3, p4, p5⟩ := st3.a
 obtain ⟨q0, q1, q2, q3, q4, q5⟩ := st3.b
 go_wp2_with fail
 have hS0 : W2 w (.int .i64 3) (.int .i64 0) (.float .f64 f) (.string ByteArray.empty) (.slice KA1 0 kc1) (.slice LA1 0 lc1) (.int .i64 2) (.int .i64 n) (.float .f64 0) (.string ByteArray.empty) (.slice KA2 0 kc2) (.slice LA2 0 lc2) w3.drew := st3.drewN 1
 generalize hS : W2 w (.int .i64 3) (.int .i64 0) (.float .f64 f) (.string ByteArray.empty) (.slice KA1 0 kc1) (.slice LA1 0 lc1) (.int .i64 2) (.int .i64 n) (.float .f64 0) (.string ByteArray.empty) (.slice KA2 0 kc2) (.slice LA2 0 lc2) = S at hS0
 clear p0 p1 p2 p3 p4 p5 q0 q1 q2 q3 q4 q5 st3
 refine wp_region_head 4 S (by rfl) (by kernel_rfl) ?_
 refine HT.take 0 (v := ?_) rfl (by kernel_rfl) (fun _ _ _ h => h) (Or.inl ⟨by rfl, ?_⟩) ‹_› ?_
 rotate_left
 ·intro W hSw; rw [← hS] at hSw; obtain ⟨_, _, ⟨s0, s1, s2, s3, s4, s5⟩, ⟨t0, t1, t2, t3, t4, t5⟩⟩ := hSw; go_simp; with_reducible rfl
 simp only [Act.put, zzA, zzZ, zzS]
 refine HT.take 2 (v := ?_) rfl (by kernel_rfl) (fun _ _ _ h => h) (Or.inl ⟨by rfl, ?_⟩) ‹_› ?_
 rotate_left
 ·intro W hSw; rw [← hS] at hSw; obtain ⟨_, _, ⟨s0, s1, s2, s3, s4, s5⟩, ⟨t0, t1, t2, t3, t4, t5⟩⟩ := hSw; go_simp; with_reducible rfl
 simp only [Act.put, zzA, zzZ, zzS]
 have st0 : W2 w (.int .i64 3) (.int .i64 0) (.float .f64 f) (.string ByteArray.empty) (.slice KA1 0 kc1) (.slice LA1 0 lc1) (.int .i64 2) (.int .i64 n) (.float .f64 0) (.string ByteArray.empty) (.slice KA2 0 kc2) (.slice LA2 0 lc2) w3.drew := by rw [hS]; exact hS0
 refine HT.one 1 rfl (by kernel_rfl) (by rfl) (fun K hK => ?_)
 go_simp
 refine (HF1.out _ st0.below).mono ?_
 rintro e w4 ⟨rfl, hb1⟩
 have st1 := st0.call hb1
 go_simp
 refine hK.out _ _ (by rw [← hS]; exact st1) ?_
 clear hK
 refine HT.one 3 rfl (by kernel_rfl) (by rfl) (fun K hK => ?_)
 go_simp
 refine (HF2.out _ st1.below).mono ?_
 rintro e w5 ⟨rfl, hb2⟩
 have st2 := st1.call hb2
 go_simp
 refine hK.out _ _ (by rw [← hS]; exact st2) ?_
 refine HT.done (by kernel_rfl) ?_
 simp only [List.drop_succ_cons, List.drop_zero]
 clear hK hS0 hS st0 st1 hb1 hb2
 go_wp2_with fail
 refine (specFloats_calls _ _ _).mono ?_
 rintro e w6 ⟨rfl, rfl⟩
 go_wp2
 go_ret
 exact ⟨rfl, st2.below⟩

set_option maxRecDepth 100000 in
set_option maxHeartbeats 1000000 in
theorem specCmp_ff (f g : Nat) (w : World) (cs1 cs2 : List Value) (h1 : TAt w (.flt f) cs1) (h2 : TAt w (.flt g) cs2) :
  Calls Tryz.prog 239 #[.agg cs1.toArray, .agg cs2.toArray] w (CmpPost (fcmp f g) w) := by
 have HK1 := hide fun (W : World) (hb : Below w.heap.size w W) => kindRank_calls _ W _ (h1.at_ hb)
 have HK2 := hide fun (W : World) (hb : Below w.heap.size w W) => kindRank_calls _ W _ (h2.at_ hb)
 have HI := fun (W : World) => hide (specInts_calls (T.ord (.flt f)) (T.ord (.flt g)) W)
 rw [show cmpI (T.ord (.flt f)) (T.ord (.flt g)) = 0 from by simp [T.ord, cmpI]] at HI
 have HF1 := hide fun (W : World) (hb : Below w.heap.size w W) => asFloat_calls _ W _ (h1.at_ hb) (by rfl)
 have HF2 := hide fun (W : World) (hb : Below w.heap.size w W) => asFloat_calls _ W _ (h2.at_ hb) (by rfl)
 unfold TAt T.toRV at h1 h2
 cases h1 with
 | @mk _ _ _ _ _ _ KA1 LA1 kc1 lc1 xs1 g1 g2 g3 g4 g5 g6 g7 g8 g9 g10 g11 g12 g13 g14 =>
 clear g1 g2 g3 g4 g5 g6 g7 g8 g9 g10 g11 g12 g13 g14
 cases h2 with
 | @mk _ _ _ _ _ _ KA2 LA2 kc2 lc2 xs2 g1 g2 g3 g4 g5 g6 g7 g8 g9 g10 g11 g12 g13 g14 =>
 clear g1 g2 g3 g4 g5 g6 g7 g8 g9 g10 g11 g12 g13 g14
 go_enter Tryz.func239, Tryz.ntmps239
 go_wp2_with fail
 have st := W2.made w 27 (.int .i64 3) (.int .i64 0) (.float .f64 f) (.string ByteArray.empty) (.slice KA1 0 kc1) (.slice LA1 0 lc1) (.int .i64 3) (.int .i64 0) (.float .f64 g) (.string ByteArray.empty) (.slice KA2 0 kc2) (.slice LA2 0 lc2)
 generalize World.alloc _ _ = W at st ⊢
 have hS0 : W2 w (.int .i64 3) (.int .i64 0) (.float .f64 f) (.string ByteArray.empty) (.slice KA1 0 kc1) (.slice LA1 0 lc1) (.int .i64 3) (.int .i64 0) (.float .f64 g) (.string ByteArray.empty) (.slice KA2 0 kc2) (.slice LA2 0 lc2) W.drew := st.drewN 1
 generalize hS : W2 w (.int .i64 3) (.int .i64 0) (.float .f64 f) (.string ByteArray.empty) (.slice KA1 0 kc1) (.slice LA1 0 lc1) (.int .i64 3) (.int .i64 0) (.float .f64 g) (.string ByteArray.empty) (.slice KA2 0 kc2) (.slice LA2 0 lc2) = S at hS0
 clear st
 refine wp_region_head 4 S (by rfl) (by kernel_rfl) ?_
 refine HT.take 0 (v := ?_) rfl (by kernel_rfl) (fun _ _ _ h => h) (Or.inl ⟨by rfl, ?_⟩) ‹_› ?_
 rotate_left
 ·intro W hSw; rw [← hS] at hSw; obtain ⟨_, _, ⟨s0, s1, s2, s3, s4, s5⟩, ⟨t0, t1, t2, t3, t4, t5⟩⟩ := hSw; go_simp; with_reducible rfl
 simp only [Act.put, zzA, zzZ, zzS]
 refine HT.take 2 (v := ?_) rfl (by kernel_rfl) (fun _ _ _ h => h) (Or.inl ⟨by rfl, ?_⟩) ‹_› ?_
 rotate_left
 ·intro W hSw; rw [← hS] at hSw; obtain ⟨_, _, ⟨s0, s1, s2, s3, s4, s5⟩, ⟨t0, t1, t2, t3, t4, t5⟩⟩ := hSw; go_simp; with_reducible rfl
 simp only [Act.put, zzA, zzZ, zzS]
 have st0 : W2 w (.int .i64 3) (.int .i64 0) (.float .f64 f) (.string ByteArray.empty) (.slice KA1 0 kc1) (.slice LA1 0 lc1) (.int .i64 3) (.int .i64 0) (.float .f64 g) (.string ByteArray.empty) (.slice KA2 0 kc2) (.slice LA2 0 lc2) W.drew := by rw [hS]; exact hS0
 refine HT.one 1 rfl (by kernel_rfl) (by rfl) (fun K hK => ?_)
 go_simp
 refine (HK1.out _ st0.below).mono ?_
 rintro e w1 ⟨rfl, hb1⟩
 have st1 := st0.call hb1
 go_simp
 refine hK.out _ _ (by rw [← hS]; exact st1) ?_
 clear hK
 refine HT.one 3 rfl (by kernel_rfl) (by rfl) (fun K hK => ?_)
 go_simp
 refine (HK2.out _ st1.below).mono ?_
 rintro e w2 ⟨rfl, hb2⟩
 have st2 := st1.call hb2
 go_simp
 refine hK.out _ _ (by rw [← hS]; exact st2) ?_
 refine HT.done (by kernel_rfl) ?_
 simp only [List.drop_succ_cons, List.drop_zero]
 clear hK hS0 hS st0 st1 hb1 hb2
 go_wp2_with fail
 refine (HI w2).out.mono ?_
 rintro e w3 ⟨rfl, rfl⟩
 obtain ⟨p0, p1, p2, p3, p4, p5⟩ := st2.a
 go_wp2_with fail
 refine (HK1.out _ st2.below).mono ?_
 rintro e w3 ⟨rfl, hb3⟩
 have st3 := st2.call hb3
 clear p0 p1 p2 p3 p4 p5 st2 hb3
 obtain ⟨p0, p1, p2, p3, p4, p5⟩ := st3.a
 obtain ⟨q0, q1, q2, q3, q4, q5⟩ := st3.b
 go_wp2_with fail
 have hS0 : W2 w (.int .i64 3) (.int .i64 0) (.float .f64 f) (.string ByteArray.empty) (.slice KA1 0 kc1) (.slice LA1 0 lc1) (.int .i64 3) (.int .i64 0) (.float .f64 g) (.string ByteArray.empty) (.slice KA2 0 kc2) (.slice LA2 0 lc2) w3.drew := st3.drewN 1
 generalize hS : W2 w (.int .i64 3) (.int .i64 0) (.float .f64 f) (.string ByteArray.empty) (.slice KA1 0 kc1) (.slice LA1 0 lc1) (.int .i64 3) (.int .i64 0) (.float .f64 g) (.string ByteArray.empty) (.slice KA2 0 kc2) (.slice LA2 0 lc2) = S at hS0
 clear p0 p1 p2 p3 p4 p5 q0 q1 q2 q3 q4 q5 st3
 refine wp_region_head 4 S (by rfl) (by kernel_rfl) ?_
 refine HT.take 0 (v := ?_) rfl (by kernel_rfl) (fun _ _ _ h => h) (Or.inl ⟨by rfl, ?_⟩) ‹_› ?_
 rotate_left
 ·intro W hSw; rw [← hS] at hSw; obtain ⟨_, _, ⟨s0, s1, s2, s3, s4, s5⟩, ⟨t0, t1, t2, t3, t4, t5⟩⟩ := hSw; go_simp; with_reducible rfl
 simp only [Act.put, zzA, zzZ, zzS]
 refine HT.take 2 (v := ?_) rfl (by kernel_rfl) (fun _ _ _ h => h) (Or.inl ⟨by rfl, ?_⟩) ‹_› ?_
 rotate_left
 ·intro W hSw; rw [← hS] at hSw; obtain ⟨_, _, ⟨s0, s1, s2, s3, s4, s5⟩, ⟨t0, t1, t2, t3, t4, t5⟩⟩ := hSw; go_simp; with_reducible rfl
 simp only [Act.put, zzA, zzZ, zzS]
 have st0 : W2 w (.int .i64 3) (.int .i64 0) (.float .f64 f) (.string ByteArray.empty) (.slice KA1 0 kc1) (.slice LA1 0 lc1) (.int .i64 3) (.int .i64 0) (.float .f64 g) (.string ByteArray.empty) (.slice KA2 0 kc2) (.slice LA2 0 lc2) w3.drew := by rw [hS]; exact hS0
 refine HT.one 1 rfl (by kernel_rfl) (by rfl) (fun K hK => ?_)
 go_simp
 refine (HF1.out _ st0.below).mono ?_
 rintro e w4 ⟨rfl, hb1⟩
 have st1 := st0.call hb1
 go_simp
 refine hK.out _ _ (by rw [← hS]; exact st1) ?_
 clear hK
 refine HT.one 3 rfl (by kernel_rfl) (by rfl) (fun K hK => ?_)
 go_simp
 refine (HF2.out _ st1.below).mono ?_
 rintro e w5 ⟨rfl, hb2⟩
 have st2 := st1.call hb2
 go_simp
 refine hK.out _ _ (by rw [← hS]; exact st2) ?_
 refine HT.done (by kernel_rfl) ?_
 simp only [List.drop_succ_cons, List.drop_zero]
 clear hK hS0 hS st0 st1 hb1 hb2
 go_wp2_with fail
 refine (specFloats_calls _ _ _).mono ?_
 rintro e w6 ⟨rfl, rfl⟩
 go_wp2
 go_ret
 exact ⟨rfl, st2.below⟩

theorem specCmp_all (a b : T) : SpecCmpOK a b := by
 induction h : a.rank using Nat.strongRecOn generalizing a b with
 | ind n ih =>
 subst h
 intro w cs1 cs2 h1 h2
 by_cases hne : a.ord = b.ord
 ·cases a with
  | null => cases b <;> simp [T.ord] at hne; rw [T.cmp]; exact specCmp_null w cs1 cs2 h1 h2; all_goals simp
  | bool x => cases b <;> simp [T.ord] at hne; rw [T.cmp]; exact specCmp_bool _ _ w cs1 cs2 h1 h2
  | int x =>
   cases b <;> simp [T.ord] at hne
   ·rw [T.cmp]; exact specCmp_int _ _ w cs1 cs2 h1 h2
   ·rw [T.cmp]; exact specCmp_if _ _ w cs1 cs2 h1 h2
  | flt x =>
   cases b <;> simp [T.ord] at hne
   ·rw [T.cmp]; exact specCmp_fi _ _ w cs1 cs2 h1 h2
   ·rw [T.cmp]; exact specCmp_ff _ _ w cs1 cs2 h1 h2
  | str x => cases b <;> simp [T.ord] at hne; rw [T.cmp]; exact specCmp_str _ _ w cs1 cs2 h1 h2
  | list l =>
   cases b <;> simp [T.ord] at hne
   rw [T.cmp]
   exact specCmp_list _ _ (fun a ha b _ => ih _ (T.rank_list ha) a b rfl) w cs1 cs2 h1 h2
  | map l =>
   cases b <;> simp [T.ord] at hne
   rw [T.cmp]
   exact specCmp_map _ _ (fun k a ha j b _ => ih _ (T.rank_map ha) a b rfl) w cs1 cs2 h1 h2
 ·exact specCmp_ne a b hne w cs1 cs2 h1 h2

end Go.Proofs.YtbicoknghdgahaaGreat
