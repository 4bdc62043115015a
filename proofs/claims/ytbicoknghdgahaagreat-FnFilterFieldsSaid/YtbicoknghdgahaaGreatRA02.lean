import Derived.Test.YtbicoknghdgahaaGreatRA01
set_option linter.unusedVariables false
set_option linter.unusedSimpArgs false
namespace Go.Proofs.YtbicoknghdgahaaGreat
open Go.RowKit
attribute [local go_sem] run_store_float
theorem eqv_kn {a b:T} (h:a.kn≠b.kn) (hn:(a.isNum&&b.isNum)=false):T.eqv a b=false:=by
 cases a <;> cases b <;> first | (exact absurd rfl h) | (simp[T.isNum] at hn;done) | simp[T.eqv]
theorem eqvM_split (l1 l2:List (ByteArray × T)):T.eqvM l1 l2=(decide (l1.map Prod.fst=l2.map Prod.fst)&&T.eqvL (l1.map Prod.snd) (l2.map Prod.snd)):=by
 induction l1 generalizing l2 with
 | nil=>cases l2 with
  | nil=>simp[T.eqvM,T.eqvL]
  | cons q l2=>simp[T.eqvM]
 | cons p l1 ih=>cases l2 with
  | nil=>simp[T.eqvM]
  | cons q l2=>
   obtain⟨k,a⟩:=p
   obtain⟨j,b⟩:=q
   rw[T.eqvM,ih]
   simp only[List.map_cons,List.cons.injEq,T.eqvL]
   by_cases h:k=j
   ·subst h
    cases T.eqv a b <;> simp
   ·simp[h]
def SpecEqOK (a b:T):Prop:=∀(w:World) (cs1 cs2:List Value),TAt w a cs1→TAt w b cs2→Calls Tryz.prog 97 #[.agg cs1.toArray,.agg cs2.toArray] w (EqPost (T.eqv a b) w)
theorem TAt.kn {w:World} {t:T} {a0 a1 a2 a3 a4 a5:Value} (h:TAt w t [a0,a1,a2,a3,a4,a5]):a0 = .int .i64 t.kn:=by
 unfold TAt at h
 cases t <;> (unfold T.toRV at h;cases h;rfl)
set_option maxRecDepth 100000 in
set_option maxHeartbeats 1000000 in
theorem specEq_ne (t1 t2:T) (hne:t1.kn≠t2.kn) (hnn:(t1.isNum&&t2.isNum)=false) (w:World) (cs1 cs2:List Value) (h1:TAt w t1 cs1) (h2:TAt w t2 cs2) :
  Calls Tryz.prog 97 #[.agg cs1.toArray,.agg cs2.toArray] w (EqPost (T.eqv t1 t2) w):=by
 have HN1:=hide fun(W:World) (hb:Below w.heap.size w W)=>number_calls _ W _ (h1.at_ hb)
 have HN2:=hide fun(W:World) (hb:Below w.heap.size w W)=>number_calls _ W _ (h2.at_ hb)
 rw[eqv_kn hne hnn]
 obtain⟨a0,a1,a2,a3,a4,a5,rfl⟩:=RVAt.six h1
 obtain⟨b0,b1,b2,b3,b4,b5,rfl⟩:=RVAt.six h2
 obtain rfl:=h1.kn
 obtain rfl:=h2.kn
 generalize t1.kn=k1 at *
 generalize t2.kn=k2 at *
 generalize t1.isNum=m1 at *
 generalize t2.isNum=m2 at *
 clear h1 h2
 go_enter Tryz.func97,Tryz.ntmps97
 go_wp2_with fail
 have st:=W2.made w 27 (.int .i64 k1) a1 a2 a3 a4 a5 (.int .i64 k2) b1 b2 b3 b4 b5
 generalize World.alloc _ _=W at st ⊢
 obtain⟨p0,p1,p2,p3,p4,p5⟩:=st.a
 go_wp2_with fail
 refine(HN1.out _ st.below).mono ?_
 rintro e w1 ⟨rfl,hb1⟩
 have st1:=st.call hb1
 clear p0 p1 p2 p3 p4 p5 st hb1
 obtain⟨p0,p1,p2,p3,p4,p5⟩:=st1.a
 obtain⟨q0,q1,q2,q3,q4,q5⟩:=st1.b
 cases m1
 ·go_wp2
  go_ret
  exact⟨rfl,st1.below⟩
 ·cases m2
  ·go_wp2_with fail
   refine(HN2.out _ st1.below).mono ?_
   rintro e w2 ⟨rfl,hb2⟩
   have st2:=st1.call hb2
   clear p0 p1 p2 p3 p4 p5 q0 q1 q2 q3 q4 q5 st1 hb2
   obtain⟨p0,p1,p2,p3,p4,p5⟩:=st2.a
   obtain⟨q0,q1,q2,q3,q4,q5⟩:=st2.b
   go_wp2
   go_ret
   exact⟨rfl,st2.below⟩
  ·cases hnn
set_option maxRecDepth 100000 in
set_option maxHeartbeats 1000000 in
theorem specEq_int (n m:Int) (w:World) (cs1 cs2:List Value) (h1:TAt w (.int n) cs1) (h2:TAt w (.int m) cs2) :
  Calls Tryz.prog 97 #[.agg cs1.toArray,.agg cs2.toArray] w (EqPost (n==m) w):=by
 have HN1:Hid (∀W,Below w.heap.size w W→Calls Tryz.prog 149 #[.agg cs1.toArray] W fun e w'=>e = .returned (.bool true)∧Below W.heap.size W w'):=hide fun(W:World) (hb:Below w.heap.size w W)=>number_calls _ W _ (h1.at_ hb)
 have HN2:Hid (∀W,Below w.heap.size w W→Calls Tryz.prog 149 #[.agg cs2.toArray] W fun e w'=>e = .returned (.bool true)∧Below W.heap.size W w'):=hide fun(W:World) (hb:Below w.heap.size w W)=>number_calls _ W _ (h2.at_ hb)
 have HF1:=hide fun(W:World) (hb:Below w.heap.size w W)=>asFloat_calls _ W _ (h1.at_ hb) (by rfl)
 have HF2:=hide fun(W:World) (hb:Below w.heap.size w W)=>asFloat_calls _ W _ (h2.at_ hb) (by rfl)
 unfold TAt T.toRV at h1 h2
 cases h1 with
 | @mk _ _ _ _ _ _ KA1 LA1 kc1 lc1 xs1 g1 g2 g3 g4 g5 g6 g7 g8 g9 g10 g11 g12 g13 g14=>
 clear g1 g2 g3 g4 g5 g6 g7 g8 g9 g10 g11 g12 g13 g14
 cases h2 with
 | @mk _ _ _ _ _ _ KA2 LA2 kc2 lc2 xs2 g1 g2 g3 g4 g5 g6 g7 g8 g9 g10 g11 g12 g13 g14=>
 clear g1 g2 g3 g4 g5 g6 g7 g8 g9 g10 g11 g12 g13 g14
 go_enter Tryz.func97,Tryz.ntmps97
 go_wp2_with fail
 have st:=W2.made w 27 (.int .i64 2) (.int .i64 n) (.float .f64 0) (.string ByteArray.empty) (.slice KA1 0 kc1) (.slice LA1 0 lc1) (.int .i64 2) (.int .i64 m) (.float .f64 0) (.string ByteArray.empty) (.slice KA2 0 kc2) (.slice LA2 0 lc2)
 generalize World.alloc _ _=W at st ⊢
 obtain⟨p0,p1,p2,p3,p4,p5⟩:=st.a
 go_wp2_with fail
 refine(HN1.out _ st.below).mono ?_
 rintro e w1 ⟨rfl,hb1⟩
 have st1:=st.call hb1
 clear p0 p1 p2 p3 p4 p5 st hb1
 obtain⟨q0,q1,q2,q3,q4,q5⟩:=st1.b
 go_wp2_with fail
 refine(HN2.out _ st1.below).mono ?_
 rintro e w2 ⟨rfl,hb2⟩
 have st2:=st1.call hb2
 clear q0 q1 q2 q3 q4 q5 st1 hb2
 obtain⟨p0,p1,p2,p3,p4,p5⟩:=st2.a
 obtain⟨q0,q1,q2,q3,q4,q5⟩:=st2.b
 go_wp2
 go_ret
 exact⟨by first | rfl | exact ret_bool (by simp[Bool.eq_iff_iff]),st2.below⟩
set_option maxRecDepth 100000 in
set_option maxHeartbeats 1000000 in
theorem specEq_if (n:Int) (f:Nat) (w:World) (cs1 cs2:List Value) (h1:TAt w (.int n) cs1) (h2:TAt w (.flt f) cs2) :
  Calls Tryz.prog 97 #[.agg cs1.toArray,.agg cs2.toArray] w (EqPost (feq (toF n) f) w):=by
 have HN1:Hid (∀W,Below w.heap.size w W→Calls Tryz.prog 149 #[.agg cs1.toArray] W fun e w'=>e = .returned (.bool true)∧Below W.heap.size W w'):=hide fun(W:World) (hb:Below w.heap.size w W)=>number_calls _ W _ (h1.at_ hb)
 have HN2:Hid (∀W,Below w.heap.size w W→Calls Tryz.prog 149 #[.agg cs2.toArray] W fun e w'=>e = .returned (.bool true)∧Below W.heap.size W w'):=hide fun(W:World) (hb:Below w.heap.size w W)=>number_calls _ W _ (h2.at_ hb)
 have HF1:=hide fun(W:World) (hb:Below w.heap.size w W)=>asFloat_calls _ W _ (h1.at_ hb) (by rfl)
 have HF2:=hide fun(W:World) (hb:Below w.heap.size w W)=>asFloat_calls _ W _ (h2.at_ hb) (by rfl)
 unfold TAt T.toRV at h1 h2
 cases h1 with
 | @mk _ _ _ _ _ _ KA1 LA1 kc1 lc1 xs1 g1 g2 g3 g4 g5 g6 g7 g8 g9 g10 g11 g12 g13 g14=>
 clear g1 g2 g3 g4 g5 g6 g7 g8 g9 g10 g11 g12 g13 g14
 cases h2 with
 | @mk _ _ _ _ _ _ KA2 LA2 kc2 lc2 xs2 g1 g2 g3 g4 g5 g6 g7 g8 g9 g10 g11 g12 g13 g14=>
 clear g1 g2 g3 g4 g5 g6 g7 g8 g9 g10 g11 g12 g13 g14
 go_enter Tryz.func97,Tryz.ntmps97
 go_wp2_with fail
 have st:=W2.made w 27 (.int .i64 2) (.int .i64 n) (.float .f64 0) (.string ByteArray.empty) (.slice KA1 0 kc1) (.slice LA1 0 lc1) (.int .i64 3) (.int .i64 0) (.float .f64 f) (.string ByteArray.empty) (.slice KA2 0 kc2) (.slice LA2 0 lc2)
 generalize World.alloc _ _=W at st ⊢
 obtain⟨p0,p1,p2,p3,p4,p5⟩:=st.a
 go_wp2_with fail
 refine(HN1.out _ st.below).mono ?_
 rintro e w1 ⟨rfl,hb1⟩
 have st1:=st.call hb1
 clear p0 p1 p2 p3 p4 p5 st hb1
 obtain⟨q0,q1,q2,q3,q4,q5⟩:=st1.b
 go_wp2_with fail
 refine(HN2.out _ st1.below).mono ?_
 rintro e w2 ⟨rfl,hb2⟩
 have st2:=st1.call hb2
 clear q0 q1 q2 q3 q4 q5 st1 hb2
 obtain⟨p0,p1,p2,p3,p4,p5⟩:=st2.a
 obtain⟨q0,q1,q2,q3,q4,q5⟩:=st2.b
 go_wp2_with fail
 have hS0:W2 w (.int .i64 2) (.int .i64 n) (.float .f64 0) (.string ByteArray.empty) (.slice KA1 0 kc1) (.slice LA1 0 lc1) (.int .i64 3) (.int .i64 0) (.float .f64 f) (.string ByteArray.empty) (.slice KA2 0 kc2) (.slice LA2 0 lc2) w2.drew:=st2.drewN 1
 generalize hS:W2 w (.int .i64 2) (.int .i64 n) (.float .f64 0) (.string ByteArray.empty) (.slice KA1 0 kc1) (.slice LA1 0 lc1) (.int .i64 3) (.int .i64 0) (.float .f64 f) (.string ByteArray.empty) (.slice KA2 0 kc2) (.slice LA2 0 lc2)=S at hS0
 clear p0 p1 p2 p3 p4 p5 q0 q1 q2 q3 q4 q5 st2
 refine wp_region_head 4 S (by rfl) (by kernel_rfl) ?_
 refine HT.take 0 (v:=?_) rfl (by kernel_rfl) (fun _ _ _ h=>h) (Or.inl ⟨by rfl,?_⟩) ‹_› ?_
 rotate_left
 ·intro W hSw;rw[←hS] at hSw;obtain⟨_,_,⟨s0,s1,s2,s3,s4,s5⟩,⟨t0,t1,t2,t3,t4,t5⟩⟩:=hSw;go_simp;with_reducible rfl
 simp only[Act.put,zzA,zzZ,zzS]
 refine HT.take 2 (v:=?_) rfl (by kernel_rfl) (fun _ _ _ h=>h) (Or.inl ⟨by rfl,?_⟩) ‹_› ?_
 rotate_left
 ·intro W hSw;rw[←hS] at hSw;obtain⟨_,_,⟨s0,s1,s2,s3,s4,s5⟩,⟨t0,t1,t2,t3,t4,t5⟩⟩:=hSw;go_simp;with_reducible rfl
 simp only[Act.put,zzA,zzZ,zzS]
 have st0:W2 w (.int .i64 2) (.int .i64 n) (.float .f64 0) (.string ByteArray.empty) (.slice KA1 0 kc1) (.slice LA1 0 lc1) (.int .i64 3) (.int .i64 0) (.float .f64 f) (.string ByteArray.empty) (.slice KA2 0 kc2) (.slice LA2 0 lc2) w2.drew:=by rw[hS];exact hS0
 refine HT.one 1 rfl (by kernel_rfl) (by rfl) (fun K hK=>?_)
 go_simp
 refine(HF1.out _ st0.below).mono ?_
 rintro e w4 ⟨rfl,hb1⟩
 have st1:=st0.call hb1
 go_simp
 refine hK.out _ _ (by rw[←hS];exact st1) ?_
 clear hK
 refine HT.one 3 rfl (by kernel_rfl) (by rfl) (fun K hK=>?_)
 go_simp
 refine(HF2.out _ st1.below).mono ?_
 rintro e w5 ⟨rfl,hb2⟩
 have st5:=st1.call hb2
 go_simp
 refine hK.out _ _ (by rw[←hS];exact st5) ?_
 refine HT.done (by kernel_rfl) ?_
 simp only[List.drop_succ_cons,List.drop_zero]
 clear hK hS0 hS st0 st1 hb1 hb2
 go_wp2
 go_ret
 exact⟨rfl,st5.below⟩
set_option maxRecDepth 100000 in
set_option maxHeartbeats 1000000 in
theorem specEq_fi (f:Nat) (n:Int) (w:World) (cs1 cs2:List Value) (h1:TAt w (.flt f) cs1) (h2:TAt w (.int n) cs2) :
  Calls Tryz.prog 97 #[.agg cs1.toArray,.agg cs2.toArray] w (EqPost (feq f (toF n)) w):=by
 have HN1:Hid (∀W,Below w.heap.size w W→Calls Tryz.prog 149 #[.agg cs1.toArray] W fun e w'=>e = .returned (.bool true)∧Below W.heap.size W w'):=hide fun(W:World) (hb:Below w.heap.size w W)=>number_calls _ W _ (h1.at_ hb)
 have HN2:Hid (∀W,Below w.heap.size w W→Calls Tryz.prog 149 #[.agg cs2.toArray] W fun e w'=>e = .returned (.bool true)∧Below W.heap.size W w'):=hide fun(W:World) (hb:Below w.heap.size w W)=>number_calls _ W _ (h2.at_ hb)
 have HF1:=hide fun(W:World) (hb:Below w.heap.size w W)=>asFloat_calls _ W _ (h1.at_ hb) (by rfl)
 have HF2:=hide fun(W:World) (hb:Below w.heap.size w W)=>asFloat_calls _ W _ (h2.at_ hb) (by rfl)
 unfold TAt T.toRV at h1 h2
 cases h1 with
 | @mk _ _ _ _ _ _ KA1 LA1 kc1 lc1 xs1 g1 g2 g3 g4 g5 g6 g7 g8 g9 g10 g11 g12 g13 g14=>
 clear g1 g2 g3 g4 g5 g6 g7 g8 g9 g10 g11 g12 g13 g14
 cases h2 with
 | @mk _ _ _ _ _ _ KA2 LA2 kc2 lc2 xs2 g1 g2 g3 g4 g5 g6 g7 g8 g9 g10 g11 g12 g13 g14=>
 clear g1 g2 g3 g4 g5 g6 g7 g8 g9 g10 g11 g12 g13 g14
 go_enter Tryz.func97,Tryz.ntmps97
 go_wp2_with fail
 have st:=W2.made w 27 (.int .i64 3) (.int .i64 0) (.float .f64 f) (.string ByteArray.empty) (.slice KA1 0 kc1) (.slice LA1 0 lc1) (.int .i64 2) (.int .i64 n) (.float .f64 0) (.string ByteArray.empty) (.slice KA2 0 kc2) (.slice LA2 0 lc2)
 generalize World.alloc _ _=W at st ⊢
 obtain⟨p0,p1,p2,p3,p4,p5⟩:=st.a
 go_wp2_with fail
 refine(HN1.out _ st.below).mono ?_
 rintro e w1 ⟨rfl,hb1⟩
 have st1:=st.call hb1
 clear p0 p1 p2 p3 p4 p5 st hb1
 obtain⟨q0,q1,q2,q3,q4,q5⟩:=st1.b
 go_wp2_with fail
 refine(HN2.out _ st1.below).mono ?_
 rintro e w2 ⟨rfl,hb2⟩
 have st2:=st1.call hb2
 clear q0 q1 q2 q3 q4 q5 st1 hb2
 obtain⟨p0,p1,p2,p3,p4,p5⟩:=st2.a
 obtain⟨q0,q1,q2,q3,q4,q5⟩:=st2.b
 go_wp2_with fail
 have hS0:W2 w (.int .i64 3) (.int .i64 0) (.float .f64 f) (.string ByteArray.empty) (.slice KA1 0 kc1) (.slice LA1 0 lc1) (.int .i64 2) (.int .i64 n) (.float .f64 0) (.string ByteArray.empty) (.slice KA2 0 kc2) (.slice LA2 0 lc2) w2.drew:=st2.drewN 1
 generalize hS:W2 w (.int .i64 3) (.int .i64 0) (.float .f64 f) (.string ByteArray.empty) (.slice KA1 0 kc1) (.slice LA1 0 lc1) (.int .i64 2) (.int .i64 n) (.float .f64 0) (.string ByteArray.empty) (.slice KA2 0 kc2) (.slice LA2 0 lc2)=S at hS0
 clear p0 p1 p2 p3 p4 p5 q0 q1 q2 q3 q4 q5 st2
 refine wp_region_head 4 S (by rfl) (by kernel_rfl) ?_
 refine HT.take 0 (v:=?_) rfl (by kernel_rfl) (fun _ _ _ h=>h) (Or.inl ⟨by rfl,?_⟩) ‹_› ?_
 rotate_left
 ·intro W hSw;rw[←hS] at hSw;obtain⟨_,_,⟨s0,s1,s2,s3,s4,s5⟩,⟨t0,t1,t2,t3,t4,t5⟩⟩:=hSw;go_simp;with_reducible rfl
 simp only[Act.put,zzA,zzZ,zzS]
 refine HT.take 2 (v:=?_) rfl (by kernel_rfl) (fun _ _ _ h=>h) (Or.inl ⟨by rfl,?_⟩) ‹_› ?_
 rotate_left
 ·intro W hSw;rw[←hS] at hSw;obtain⟨_,_,⟨s0,s1,s2,s3,s4,s5⟩,⟨t0,t1,t2,t3,t4,t5⟩⟩:=hSw;go_simp;with_reducible rfl
 simp only[Act.put,zzA,zzZ,zzS]
 have st0:W2 w (.int .i64 3) (.int .i64 0) (.float .f64 f) (.string ByteArray.empty) (.slice KA1 0 kc1) (.slice LA1 0 lc1) (.int .i64 2) (.int .i64 n) (.float .f64 0) (.string ByteArray.empty) (.slice KA2 0 kc2) (.slice LA2 0 lc2) w2.drew:=by rw[hS];exact hS0
 refine HT.one 1 rfl (by kernel_rfl) (by rfl) (fun K hK=>?_)
 go_simp
 refine(HF1.out _ st0.below).mono ?_
 rintro e w4 ⟨rfl,hb1⟩
 have st1:=st0.call hb1
 go_simp
 refine hK.out _ _ (by rw[←hS];exact st1) ?_
 clear hK
 refine HT.one 3 rfl (by kernel_rfl) (by rfl) (fun K hK=>?_)
 go_simp
 refine(HF2.out _ st1.below).mono ?_
 rintro e w5 ⟨rfl,hb2⟩
 have st5:=st1.call hb2
 go_simp
 refine hK.out _ _ (by rw[←hS];exact st5) ?_
 refine HT.done (by kernel_rfl) ?_
 simp only[List.drop_succ_cons,List.drop_zero]
 clear hK hS0 hS st0 st1 hb1 hb2
 go_wp2
 go_ret
 exact⟨rfl,st5.below⟩
set_option maxRecDepth 100000 in
set_option maxHeartbeats 1000000 in
theorem specEq_ff (f g:Nat) (w:World) (cs1 cs2:List Value) (h1:TAt w (.flt f) cs1) (h2:TAt w (.flt g) cs2) :
  Calls Tryz.prog 97 #[.agg cs1.toArray,.agg cs2.toArray] w (EqPost (feq f g) w):=by
 have HN1:Hid (∀W,Below w.heap.size w W→Calls Tryz.prog 149 #[.agg cs1.toArray] W fun e w'=>e = .returned (.bool true)∧Below W.heap.size W w'):=hide fun(W:World) (hb:Below w.heap.size w W)=>number_calls _ W _ (h1.at_ hb)
 have HN2:Hid (∀W,Below w.heap.size w W→Calls Tryz.prog 149 #[.agg cs2.toArray] W fun e w'=>e = .returned (.bool true)∧Below W.heap.size W w'):=hide fun(W:World) (hb:Below w.heap.size w W)=>number_calls _ W _ (h2.at_ hb)
 have HF1:=hide fun(W:World) (hb:Below w.heap.size w W)=>asFloat_calls _ W _ (h1.at_ hb) (by rfl)
 have HF2:=hide fun(W:World) (hb:Below w.heap.size w W)=>asFloat_calls _ W _ (h2.at_ hb) (by rfl)
 unfold TAt T.toRV at h1 h2
 cases h1 with
 | @mk _ _ _ _ _ _ KA1 LA1 kc1 lc1 xs1 g1 g2 g3 g4 g5 g6 g7 g8 g9 g10 g11 g12 g13 g14=>
 clear g1 g2 g3 g4 g5 g6 g7 g8 g9 g10 g11 g12 g13 g14
 cases h2 with
 | @mk _ _ _ _ _ _ KA2 LA2 kc2 lc2 xs2 g1 g2 g3 g4 g5 g6 g7 g8 g9 g10 g11 g12 g13 g14=>
 clear g1 g2 g3 g4 g5 g6 g7 g8 g9 g10 g11 g12 g13 g14
 go_enter Tryz.func97,Tryz.ntmps97
 go_wp2_with fail
 have st:=W2.made w 27 (.int .i64 3) (.int .i64 0) (.float .f64 f) (.string ByteArray.empty) (.slice KA1 0 kc1) (.slice LA1 0 lc1) (.int .i64 3) (.int .i64 0) (.float .f64 g) (.string ByteArray.empty) (.slice KA2 0 kc2) (.slice LA2 0 lc2)
 generalize World.alloc _ _=W at st ⊢
 obtain⟨p0,p1,p2,p3,p4,p5⟩:=st.a
 go_wp2_with fail
 refine(HN1.out _ st.below).mono ?_
 rintro e w1 ⟨rfl,hb1⟩
 have st1:=st.call hb1
 clear p0 p1 p2 p3 p4 p5 st hb1
 obtain⟨q0,q1,q2,q3,q4,q5⟩:=st1.b
 go_wp2_with fail
 refine(HN2.out _ st1.below).mono ?_
 rintro e w2 ⟨rfl,hb2⟩
 have st2:=st1.call hb2
 clear q0 q1 q2 q3 q4 q5 st1 hb2
 obtain⟨p0,p1,p2,p3,p4,p5⟩:=st2.a
 obtain⟨q0,q1,q2,q3,q4,q5⟩:=st2.b
 go_wp2_with fail
 have hS0:W2 w (.int .i64 3) (.int .i64 0) (.float .f64 f) (.string ByteArray.empty) (.slice KA1 0 kc1) (.slice LA1 0 lc1) (.int .i64 3) (.int .i64 0) (.float .f64 g) (.string ByteArray.empty) (.slice KA2 0 kc2) (.slice LA2 0 lc2) w2.drew:=st2.drewN 1
 generalize hS:W2 w (.int .i64 3) (.int .i64 0) (.float .f64 f) (.string ByteArray.empty) (.slice KA1 0 kc1) (.slice LA1 0 lc1) (.int .i64 3) (.int .i64 0) (.float .f64 g) (.string ByteArray.empty) (.slice KA2 0 kc2) (.slice LA2 0 lc2)=S at hS0
 clear p0 p1 p2 p3 p4 p5 q0 q1 q2 q3 q4 q5 st2
 refine wp_region_head 4 S (by rfl) (by kernel_rfl) ?_
 refine HT.take 0 (v:=?_) rfl (by kernel_rfl) (fun _ _ _ h=>h) (Or.inl ⟨by rfl,?_⟩) ‹_› ?_
 rotate_left
 ·intro W hSw;rw[←hS] at hSw;obtain⟨_,_,⟨s0,s1,s2,s3,s4,s5⟩,⟨t0,t1,t2,t3,t4,t5⟩⟩:=hSw;go_simp;with_reducible rfl
 simp only[Act.put,zzA,zzZ,zzS]
 refine HT.take 2 (v:=?_) rfl (by kernel_rfl) (fun _ _ _ h=>h) (Or.inl ⟨by rfl,?_⟩) ‹_› ?_
 rotate_left
 ·intro W hSw;rw[←hS] at hSw;obtain⟨_,_,⟨s0,s1,s2,s3,s4,s5⟩,⟨t0,t1,t2,t3,t4,t5⟩⟩:=hSw;go_simp;with_reducible rfl
 simp only[Act.put,zzA,zzZ,zzS]
 have st0:W2 w (.int .i64 3) (.int .i64 0) (.float .f64 f) (.string ByteArray.empty) (.slice KA1 0 kc1) (.slice LA1 0 lc1) (.int .i64 3) (.int .i64 0) (.float .f64 g) (.string ByteArray.empty) (.slice KA2 0 kc2) (.slice LA2 0 lc2) w2.drew:=by rw[hS];exact hS0
 refine HT.one 1 rfl (by kernel_rfl) (by rfl) (fun K hK=>?_)
 go_simp
 refine(HF1.out _ st0.below).mono ?_
 rintro e w4 ⟨rfl,hb1⟩
 have st1:=st0.call hb1
 go_simp
 refine hK.out _ _ (by rw[←hS];exact st1) ?_
 clear hK
 refine HT.one 3 rfl (by kernel_rfl) (by rfl) (fun K hK=>?_)
 go_simp
 refine(HF2.out _ st1.below).mono ?_
 rintro e w5 ⟨rfl,hb2⟩
 have st5:=st1.call hb2
 go_simp
 refine hK.out _ _ (by rw[←hS];exact st5) ?_
 refine HT.done (by kernel_rfl) ?_
 simp only[List.drop_succ_cons,List.drop_zero]
 clear hK hS0 hS st0 st1 hb1 hb2
 go_wp2
 go_ret
 exact⟨rfl,st5.below⟩
structure EqIn (w:World) (K1 K2:List ByteArray) (L1 L2:List T) (KA1 LA1 KA2 LA2:Option Addr):Prop where
 k1:Row (Old w) w 1 KA1 K1.length (K1.map Value.string)
 k2:Row (Old w) w 1 KA2 K2.length (K2.map Value.string)
 l1:TsAt w LA1 L1
 l2:TsAt w LA2 L2
 b1:K1.length≤8796093022208
 b2:K2.length≤8796093022208
 b3:L1.length≤8796093022208
 b4:L2.length≤8796093022208
 ok:∀a ∈ L1,∀b ∈ L2,SpecEqOK a b
def EKInv (w:World) (c0 c1 c2 c3 c4 c5 d0 d1 d2 d3 d4 d5:Value) (K1 K2:List ByteArray) (s:Value) (wr:World):Prop:=∃k:Nat,s = .int .i64 (k:Int)∧k≤K1.length∧K1.take k=K2.take k∧W2 w c0 c1 c2 c3 c4 c5 d0 d1 d2 d3 d4 d5 wr
def ELInv (w:World) (c0 c1 c2 c3 c4 c5 d0 d1 d2 d3 d4 d5:Value) (L1 L2:List T) (d:Bool) (s:Value) (wr:World):Prop:=∃k:Nat,s = .int .i64 (k:Int)∧k≤L1.length∧T.eqvL (L1.drop k) (L2.drop k)=d∧W2 w c0 c1 c2 c3 c4 c5 d0 d1 d2 d3 d4 d5 wr
theorem eqvL_step {l1 l2:List T} {k:Nat} (h1:k<l1.length) (h2:k<l2.length):T.eqvL (l1.drop k) (l2.drop k)=(T.eqv l1[k] l2[k]&&T.eqvL (l1.drop (k+1)) (l2.drop (k+1))):=by
 rw[List.drop_eq_getElem_cons h1,List.drop_eq_getElem_cons h2,T.eqvL]
set_option maxRecDepth 100000 in
set_option maxHeartbeats 2000000 in
theorem specEq_rest (kd n1 n2:Int) (s1 s2:ByteArray) (K1 K2:List ByteArray) (L1 L2:List T) (KA1 LA1 KA2 LA2:Option Addr) (kc1 lc1 kc2 lc2:Nat) (hk2:¬kd=2) (hk3:¬kd=3) (w:World) (H:EqIn w K1 K2 L1 L2 KA1 LA1 KA2 LA2)
  (hn1:∀W,Below w.heap.size w W→Calls Tryz.prog 149 #[.agg #[.int .i64 kd,.int .i64 n1,.float .f64 0,.string s1,.slice KA1 K1.length kc1,.slice LA1 L1.length lc1]] W fun e w'=>e = .returned (.bool false)∧Below W.heap.size W w') :
  Calls Tryz.prog 97 #[.agg #[.int .i64 kd,.int .i64 n1,.float .f64 0,.string s1,.slice KA1 K1.length kc1,.slice LA1 L1.length lc1],.agg #[.int .i64 kd,.int .i64 n2,.float .f64 0,.string s2,.slice KA2 K2.length kc2,.slice LA2 L2.length lc2]] w (EqPost (decide (n1=n2)&&(decide (s1=s2)&&(decide (K1=K2)&&T.eqvL L1 L2))) w):=by
 have HN1:=hide hn1
 have HH:=hide H
 have hK1:=H.b1
 have hK2:=H.b2
 have hL1:=H.b3
 have hL2:=H.b4
 clear hn1 H
 by_cases hn:n1=n2
 rotate_left
 ·rw[decide_eq_false hn,Bool.false_and]
  go_enter Tryz.func97,Tryz.ntmps97
  go_wp2_with fail
  have st:=W2.made w 27 (.int .i64 kd) (.int .i64 n1) (.float .f64 0) (.string s1) (.slice KA1 K1.length kc1) (.slice LA1 L1.length lc1) (.int .i64 kd) (.int .i64 n2) (.float .f64 0) (.string s2) (.slice KA2 K2.length kc2) (.slice LA2 L2.length lc2)
  generalize World.alloc _ _=W at st ⊢
  obtain⟨p0,p1,p2,p3,p4,p5⟩:=st.a
  go_wp2_with fail
  refine(HN1.out _ st.below).mono ?_
  rintro e w1 ⟨rfl,hb1⟩
  have st1:=st.call hb1
  clear p0 p1 p2 p3 p4 p5 st hb1
  obtain⟨p0,p1,p2,p3,p4,p5⟩:=st1.a
  obtain⟨q0,q1,q2,q3,q4,q5⟩:=st1.b
  go_wp2
  go_ret
  exact⟨rfl,st1.below⟩
 subst hn
 rw[decide_eq_true rfl,Bool.true_and]
 by_cases hs:s1=s2
 rotate_left
 ·rw[decide_eq_false hs,Bool.false_and]
  have hsb:(s1.toList==s2.toList)=false:=by rw[str_eq];exact decide_eq_false hs
  have hsb2:(s1.toList != s2.toList)=true:=by rw[bne,hsb];rfl
  have Hs:=hide hs
  clear hs
  go_enter Tryz.func97,Tryz.ntmps97
  go_wp2_with fail
  have st:=W2.made w 27 (.int .i64 kd) (.int .i64 n1) (.float .f64 0) (.string s1) (.slice KA1 K1.length kc1) (.slice LA1 L1.length lc1) (.int .i64 kd) (.int .i64 n1) (.float .f64 0) (.string s2) (.slice KA2 K2.length kc2) (.slice LA2 L2.length lc2)
  generalize World.alloc _ _=W at st ⊢
  obtain⟨p0,p1,p2,p3,p4,p5⟩:=st.a
  go_wp2_with fail
  refine(HN1.out _ st.below).mono ?_
  rintro e w1 ⟨rfl,hb1⟩
  have st1:=st.call hb1
  clear p0 p1 p2 p3 p4 p5 st hb1
  obtain⟨p0,p1,p2,p3,p4,p5⟩:=st1.a
  obtain⟨q0,q1,q2,q3,q4,q5⟩:=st1.b
  go_wp2
  go_ret
  exact⟨rfl,st1.below⟩
 subst hs
 rw[decide_eq_true rfl,Bool.true_and]
 by_cases hkl:K1.length=K2.length
 rotate_left
 ·rw[decide_eq_false (fun h=>hkl (by rw[h])),Bool.false_and]
  have hi:¬(K1.length:Int)=(K2.length:Int):=by omega
  clear hkl
  go_enter Tryz.func97,Tryz.ntmps97
  go_wp2_with fail
  have st:=W2.made w 27 (.int .i64 kd) (.int .i64 n1) (.float .f64 0) (.string s1) (.slice KA1 K1.length kc1) (.slice LA1 L1.length lc1) (.int .i64 kd) (.int .i64 n1) (.float .f64 0) (.string s1) (.slice KA2 K2.length kc2) (.slice LA2 L2.length lc2)
  generalize World.alloc _ _=W at st ⊢
  obtain⟨p0,p1,p2,p3,p4,p5⟩:=st.a
  go_wp2_with fail
  refine(HN1.out _ st.below).mono ?_
  rintro e w1 ⟨rfl,hb1⟩
  have st1:=st.call hb1
  clear p0 p1 p2 p3 p4 p5 st hb1
  obtain⟨p0,p1,p2,p3,p4,p5⟩:=st1.a
  obtain⟨q0,q1,q2,q3,q4,q5⟩:=st1.b
  go_wp2
  go_ret
  exact⟨rfl,st1.below⟩
 have hki:(K1.length:Int)=(K2.length:Int):=by omega
 by_cases hll:L1.length=L2.length
 rotate_left
 ·rw[eqvL_len hll,Bool.and_false]
  have hi:¬(L1.length:Int)=(L2.length:Int):=by omega
  have Hkl:=hide hkl
  clear hll hkl
  go_enter Tryz.func97,Tryz.ntmps97
  go_wp2_with fail
  have st:=W2.made w 27 (.int .i64 kd) (.int .i64 n1) (.float .f64 0) (.string s1) (.slice KA1 K1.length kc1) (.slice LA1 L1.length lc1) (.int .i64 kd) (.int .i64 n1) (.float .f64 0) (.string s1) (.slice KA2 K2.length kc2) (.slice LA2 L2.length lc2)
  generalize World.alloc _ _=W at st ⊢
  obtain⟨p0,p1,p2,p3,p4,p5⟩:=st.a
  go_wp2_with fail
  refine(HN1.out _ st.below).mono ?_
  rintro e w1 ⟨rfl,hb1⟩
  have st1:=st.call hb1
  clear p0 p1 p2 p3 p4 p5 st hb1
  obtain⟨p0,p1,p2,p3,p4,p5⟩:=st1.a
  obtain⟨q0,q1,q2,q3,q4,q5⟩:=st1.b
  go_wp2
  go_ret
  exact⟨rfl,st1.below⟩
 have hli:(L1.length:Int)=(L2.length:Int):=by omega
 have Hkl:=hide hkl
 have Hll:=hide hll
 obtain⟨r,hr⟩:∃r,(decide (K1=K2)&&T.eqvL L1 L2)=r:=⟨_,rfl⟩
 rw[hr]
 have Hr:=hide hr
 clear hr hkl hll
 go_enter Tryz.func97,Tryz.ntmps97
 go_wp2_with fail
 have st:=W2.made w 27 (.int .i64 kd) (.int .i64 n1) (.float .f64 0) (.string s1) (.slice KA1 K1.length kc1) (.slice LA1 L1.length lc1) (.int .i64 kd) (.int .i64 n1) (.float .f64 0) (.string s1) (.slice KA2 K2.length kc2) (.slice LA2 L2.length lc2)
 generalize World.alloc _ _=W at st ⊢
 obtain⟨p0,p1,p2,p3,p4,p5⟩:=st.a
 go_wp2_with fail
 refine(HN1.out _ st.below).mono ?_
 rintro e w1 ⟨rfl,hb1⟩
 have st1:=st.call hb1
 clear p0 p1 p2 p3 p4 p5 st hb1
 obtain⟨p0,p1,p2,p3,p4,p5⟩:=st1.a
 obtain⟨q0,q1,q2,q3,q4,q5⟩:=st1.b
 go_wp2_with fail
 clear hki hli p0 p1 p2 p3 p4 p5 q0 q1 q2 q3 q4 q5
 go_loopw [69] (fun s wr=>EKInv w (.int .i64 kd) (.int .i64 n1) (.float .f64 0) (.string s1) (.slice KA1 K1.length kc1) (.slice LA1 L1.length lc1) (.int .i64 kd) (.int .i64 n1) (.float .f64 0) (.string s1) (.slice KA2 K2.length kc2) (.slice LA2 L2.length lc2) K1 K2 s wr) (fun s _=>K2.length-(intOf s).toNat)
 case atStart=>exact⟨0,rfl,Nat.zero_le _,rfl,st1⟩
 case round=>
  obtain⟨k,rfl,hk,htake,st⟩:=hrel
  obtain⟨p0,p1,p2,p3,p4,p5⟩:=st.a
  obtain⟨q0,q1,q2,q3,q4,q5⟩:=st.b
  have Htake:=hide htake
  clear htake
  by_cases hlt:k<K2.length
  ·have hlt1:k<K1.length:=by rw[Hkl.out];exact hlt
   have i1:(k:Int)<(K1.length:Int):=by omega
   have i2:(k:Int)<(K2.length:Int):=by omega
   have i0:(0:Int)≤(k:Int):=by omega
   obtain⟨kb1,ko1,rfl,hF1,hc1⟩:=row1_at (u:=Value.string K1[k]) HH.out.k1 hlt1 (by simp[hlt1])
   obtain⟨kb2,ko2,rfl,hF2,hc2⟩:=row1_at (u:=Value.string K2[k]) HH.out.k2 hlt (by simp[hlt])
   rw[←(bcell st.below).1 _ _ hF1] at hc1
   rw[←(bcell st.below).1 _ _ hF2] at hc2
   have ht1:K1.take (k+1)=K1.take k++[K1[k]]:=List.take_succ_eq_append_getElem hlt1
   have ht2:K2.take (k+1)=K2.take k++[K2[k]]:=List.take_succ_eq_append_getElem hlt
   have hne:K1[k]≠K2[k]→K1≠K2:=fun h e=>h (by subst e;rfl)
   generalize K1[k]=x at hc1 ht1 hne
   generalize K2[k]=y at hc2 ht2 hne
   have Hn:=hide (And.intro hne (And.intro ht1 ht2))
   clear hne ht1 ht2 hF1 hF2
   by_cases hxy:x=y
   ·subst hxy
    have Hn2:=hide (show K1.take (k+1)=K2.take (k+1) by rw[Hn.out.2.1,Hn.out.2.2,Htake.out])
    clear Hn Htake
    go_wp2_with fail
    go_quiet (fail)
    go_wp2_with fail
    exact⟨⟨k+1,by go_num,hlt1,Hn2.out,st.drewN _⟩,by simp[intOf];omega⟩
   ·have hsb:(x.toList==y.toList)=false:=by rw[str_eq];exact decide_eq_false hxy
    have hsb2:(x.toList != y.toList)=true:=by rw[bne,hsb];rfl
    have Hf:=hide (show r=false by rw[←Hr.out,decide_eq_false (Hn.out.1 hxy),Bool.false_and])
    clear Hn Htake hxy
    go_wp2_with fail
    go_quiet (fail)
    go_wp2
    go_ret
    have hf:=Hf.out
    subst hf
    exact⟨rfl,below_drewN st.below _⟩
  ·have hKK:K1=K2:=by
    have h:=Htake.out
    rw[List.take_of_length_le (by have:=Hkl.out;omega),List.take_of_length_le (by omega)] at h
    exact h
   have Hre:=hide (show T.eqvL L1 L2=r by rw[←Hr.out,decide_eq_true hKK,Bool.true_and])
   have hkk:k=K2.length:=by have:=Hkl.out;omega
   subst hkk
   clear Htake hKK Hr hlt
   obtain⟨wo,rfl⟩:∃wo:World,wo=wr:=⟨_,rfl⟩
   go_wp2_with fail
   have st0:=st
   clear p0 p1 p2 p3 p4 p5 q0 q1 q2 q3 q4 q5 st
   go_loopw [87] (fun s wr=>ELInv w (.int .i64 kd) (.int .i64 n1) (.float .f64 0) (.string s1) (.slice KA1 K1.length kc1) (.slice LA1 L1.length lc1) (.int .i64 kd) (.int .i64 n1) (.float .f64 0) (.string s1) (.slice KA2 K2.length kc2) (.slice LA2 L2.length lc2) L1 L2 r s wr) (fun s _=>L1.length-(intOf s).toNat)
   case atStart=>exact⟨0,rfl,Nat.zero_le _,by simpa using Hre.out,st0⟩
   case round=>
    obtain⟨k,rfl,hk,hcmp,st⟩:=hrel
    obtain⟨p0,p1,p2,p3,p4,p5⟩:=st.a
    obtain⟨q0,q1,q2,q3,q4,q5⟩:=st.b
    have Hcmp:=hide hcmp
    clear hcmp st0
    by_cases h1:k<L1.length
    ·have h2:k<L2.length:=by rw[←Hll.out];exact h1
     have i1:(k:Int)<(L1.length:Int):=by omega
     have i2:(k:Int)<(L2.length:Int):=by omega
     have i0:(0:Int)≤(k:Int):=by omega
     have hst:=eqvL_step h1 h2
     have hok:=HH.out.ok L1[k] (List.getElem_mem h1) L2[k] (List.getElem_mem h2)
     obtain⟨b,o,u0,u1,u2,u3,u4,u5,rfl,_,ht1,k0,k1,k2,k3,k4,k5⟩:=(HH.out.l1.at_ st.below).elem h1
     obtain⟨b',o',v0,v1,v2,v3,v4,v5,rfl,_,ht2,m0,m1,m2,m3,m4,m5⟩:=(HH.out.l2.at_ st.below).elem h2
     generalize L1[k]=t1 at hst hok ht1
     generalize L2[k]=t2 at hst hok ht2
     have hcall:=hok wr.drew _ _ (TAt.at_ ht1 (below_drew (Below.refl _ _))) (TAt.at_ ht2 (below_drew (Below.refl _ _)))
     generalize T.eqv t1 t2=d at hst hcall
     have Hst:=hide hst
     have Hcall:=hide hcall
     clear hst hok ht1 ht2 hcall
     go_wp2_with fail
     go_still_tail 10,(by kernel_rfl)
     change wpList _ _ _ _ _ wr.drew
     go_wp2_with fail
     refine Hcall.out.mono ?_
     rintro e w2 ⟨rfl,hb1⟩
     have st2:=st.call (below_drew' hb1)
     clear hb1 k0 k1 k2 k3 k4 k5 m0 m1 m2 m3 m4 m5 p0 p1 p2 p3 p4 p5 q0 q1 q2 q3 q4 q5 Hcall
     cases d
     ·have Hs:=hide (show r=false by rw[←Hcmp.out,Hst.out,Bool.false_and])
      clear Hst
      go_wp2
      go_ret
      have hs:=Hs.out
      subst hs
      exact⟨rfl,st2.below⟩
     ·have Hs:=hide (show T.eqvL (L1.drop (k+1)) (L2.drop (k+1))=r by rw[←Hcmp.out,Hst.out,Bool.true_and])
      clear Hst
      go_wp2
      go_roundw
      case rel=>exact⟨k+1,by go_num,h1,Hs.out,st2⟩
      case measure=>simp[intOf];omega
    ·have Hf:=hide (show r=true by
      rw[←Hcmp.out,List.drop_of_length_le (by omega),List.drop_of_length_le (by have:=Hll.out;omega),T.eqvL])
     go_wp2
     go_ret
     have hf:=Hf.out
     subst hf
     exact⟨rfl,st.below⟩
theorem eqIn_nil (w:World) (KA1 LA1 KA2 LA2:Option Addr):EqIn w [] [] [] [] KA1 LA1 KA2 LA2:=
 ⟨Row.nil_,Row.nil_,⟨[],Row.nil_,by simp⟩,⟨[],Row.nil_,by simp⟩,by simp,by simp,by simp,by simp,by simp⟩
theorem specEq_all (a b:T):SpecEqOK a b:=by
 induction h:a.rank using Nat.strongRecOn generalizing a b with
 | ind n ih=>
 subst h
 intro w cs1 cs2 h1 h2
 by_cases hnum:(a.isNum&&b.isNum)=true
 ·cases a <;> cases b <;> simp[T.isNum] at hnum
  ·rw[T.eqv];exact specEq_int _ _ w cs1 cs2 h1 h2
  ·rw[T.eqv];exact specEq_if _ _ w cs1 cs2 h1 h2
  ·rw[T.eqv];exact specEq_fi _ _ w cs1 cs2 h1 h2
  ·rw[T.eqv];exact specEq_ff _ _ w cs1 cs2 h1 h2
 ·have hnn:(a.isNum&&b.isNum)=false:=by simpa using hnum
  by_cases hkn:a.kn=b.kn
  ·have HN:=fun(hz:a.isNum=false) (W:World) (hb:Below w.heap.size w W)=>hz ▸ number_calls a W cs1 (h1.at_ hb)
   cases a with
   | null=>
    cases b <;> simp[T.kn] at hkn
    have HN:=HN rfl
    unfold TAt T.toRV at h1 h2
    cases h1 with
    | @mk _ _ _ _ _ _ KA1 LA1 kc1 lc1 xs1 g1 g2 g3 g4 g5 g6 g7 g8 g9 g10 g11 g12 g13 g14=>
    cases h2 with
    | @mk _ _ _ _ _ _ KA2 LA2 kc2 lc2 xs2 j1 j2 j3 j4 j5 j6 j7 j8 j9 j10 j11 j12 j13 j14=>
    have:=specEq_rest 0 0 0 ByteArray.empty ByteArray.empty [] [] [] [] KA1 LA1 KA2 LA2 kc1 lc1 kc2 lc2 (by omega) (by omega) w (eqIn_nil w KA1 LA1 KA2 LA2) HN
    simpa [T.eqv,T.eqvL] using this
   | bool x=>
    cases b with
    | bool y=>
     have HN:=HN rfl
     unfold TAt T.toRV at h1 h2
     cases h1 with
     | @mk _ _ _ _ _ _ KA1 LA1 kc1 lc1 xs1 g1 g2 g3 g4 g5 g6 g7 g8 g9 g10 g11 g12 g13 g14=>
     cases h2 with
     | @mk _ _ _ _ _ _ KA2 LA2 kc2 lc2 xs2 j1 j2 j3 j4 j5 j6 j7 j8 j9 j10 j11 j12 j13 j14=>
     have:=specEq_rest 1 (if x then 1 else 0) (if y then 1 else 0) ByteArray.empty ByteArray.empty [] [] [] [] KA1 LA1 KA2 LA2 kc1 lc1 kc2 lc2 (by omega) (by omega) w (eqIn_nil w KA1 LA1 KA2 LA2) HN
     have e:(decide ((if x then (1:Int) else 0)=if y then 1 else 0)&&(decide (ByteArray.empty=ByteArray.empty)&&(decide (([]:List ByteArray)=[])&&T.eqvL [] [])))=T.eqv (.bool x) (.bool y):=by
      rw[T.eqv,T.eqvL]
      cases x <;> cases y <;> simp
     rw[e] at this
     exact this
    | _=>simp[T.kn] at hkn
   | int x=>cases b <;> simp[T.kn] at hkn;simp[T.isNum] at hnn
   | flt x=>cases b <;> simp[T.kn] at hkn;simp[T.isNum] at hnn
   | str x=>
    cases b with
    | str y=>
     have HN:=HN rfl
     unfold TAt T.toRV at h1 h2
     cases h1 with
     | @mk _ _ _ _ _ _ KA1 LA1 kc1 lc1 xs1 g1 g2 g3 g4 g5 g6 g7 g8 g9 g10 g11 g12 g13 g14=>
     cases h2 with
     | @mk _ _ _ _ _ _ KA2 LA2 kc2 lc2 xs2 j1 j2 j3 j4 j5 j6 j7 j8 j9 j10 j11 j12 j13 j14=>
     have:=specEq_rest 4 0 0 x y [] [] [] [] KA1 LA1 KA2 LA2 kc1 lc1 kc2 lc2 (by omega) (by omega) w (eqIn_nil w KA1 LA1 KA2 LA2) HN
     have e:(decide ((0:Int)=0)&&(decide (x=y)&&(decide (([]:List ByteArray)=[])&&T.eqvL [] [])))=T.eqv (.str x) (.str y):=by
      rw[T.eqv,T.eqvL]
      simp
     rw[e] at this
     exact this
    | _=>simp[T.kn] at hkn
   | list l=>
    cases b with
    | list m=>
     have HN:=HN rfl
     obtain⟨KA1,kc1,LA1,lc1,rfl,hx1,hb1⟩:=h1.list_
     obtain⟨KA2,kc2,LA2,lc2,rfl,hx2,hb2⟩:=h2.list_
     have:=specEq_rest 5 0 0 ByteArray.empty ByteArray.empty [] [] l m KA1 LA1 KA2 LA2 kc1 lc1 kc2 lc2 (by omega) (by omega) w ⟨Row.nil_,Row.nil_,hx1,hx2,by simp,by simp,by unfold R47 at hb1;omega,by unfold R47 at hb2;omega,fun a ha b _=>ih _ (T.rank_list ha) a b rfl⟩ HN
     have e:(decide ((0:Int)=0)&&(decide (ByteArray.empty=ByteArray.empty)&&(decide (([]:List ByteArray)=[])&&T.eqvL l m)))=T.eqv (.list l) (.list m):=by
      rw[T.eqv]
      simp
     rw[e] at this
     exact this
    | _=>simp[T.kn] at hkn
   | map l=>
    cases b with
    | map m=>
     have HN:=HN rfl
     obtain⟨KA1,kc1,LA1,lc1,rfl,hr1,hx1,hb1,_,_⟩:=h1.map_
     obtain⟨KA2,kc2,LA2,lc2,rfl,hr2,hx2,hb2,_,_⟩:=h2.map_
     have:=specEq_rest 6 0 0 ByteArray.empty ByteArray.empty (l.map Prod.fst) (m.map Prod.fst) (l.map Prod.snd) (m.map Prod.snd) KA1 LA1 KA2 LA2 kc1 lc1 kc2 lc2 (by omega) (by omega) w
      ⟨by simpa [List.map_map,Function.comp_def] using hr1,by simpa [List.map_map,Function.comp_def] using hr2,hx1,hx2,by rw[List.length_map];unfold R47 at hb1;omega,by rw[List.length_map];unfold R47 at hb2;omega,by rw[List.length_map];unfold R47 at hb1;omega,by rw[List.length_map];unfold R47 at hb2;omega,
       fun a ha b _=>by obtain⟨p,hp,rfl⟩:=List.mem_map.1 ha;exact ih _ (T.rank_map (k:=p.1) hp) _ b rfl⟩ (by simpa using HN)
     have e:(decide ((0:Int)=0)&&(decide (ByteArray.empty=ByteArray.empty)&&(decide (l.map Prod.fst=m.map Prod.fst)&&T.eqvL (l.map Prod.snd) (m.map Prod.snd))))=T.eqv (.map l) (.map m):=by
      rw[T.eqv,eqvM_split]
      simp
     rw[e] at this
     simpa using this
    | _=>simp[T.kn] at hkn
  ·exact specEq_ne a b hkn hnn w cs1 cs2 h1 h2
end Go.Proofs.YtbicoknghdgahaaGreat
namespace Go.Proofs.YtbicoknghdgahaaGreat
open Go.RowKit
set_option maxRecDepth 100000 in
set_option maxHeartbeats 1000000 in
theorem specEqual_calls (r1 r2:RV) (w:World) (cs1 cs2:List Value) (h1:RVAt (Old w) w r1 cs1) (h2:RVAt (Old w) w r2 cs2) :
  Calls Tryz.prog 45 #[.agg cs1.toArray,.agg cs2.toArray] w (EqPost (T.eqv r1.tree r2.tree) w):=by
 have H1:=hide h1
 have H2:=hide h2
 obtain⟨c,hcv⟩:∃c,T.eqv r1.tree r2.tree=c:=⟨_,rfl⟩
 rw[hcv]
 have Hc:=hide hcv
 clear hcv
 obtain⟨a0,a1,a2,a3,a4,a5,rfl⟩:=h1.six
 obtain⟨b0,b1,b2,b3,b4,b5,rfl⟩:=h2.six
 clear h1 h2
 go_enter Tryz.func45,Tryz.ntmps45
 go_wp2_with fail
 generalize hW:World.alloc _ _=W
 have hb:Below w.heap.size w W:=by rw[←hW];exact below_two _ _ _
 have hsz:w.heap.size+1<W.heap.size:=by rw[←hW];simp
 have hx:Bx2 w.heap.size (w.heap.size+1) a0 a1 a2 a3 a4 a5 b0 b1 b2 b3 b4 b5 W:=by rw[←hW];exact Bx2.made _ _ _ _ _ _ _ _ _ _ _ _ _ _ _
 clear hW
 have hS0:Bx2 w.heap.size (w.heap.size+1) a0 a1 a2 a3 a4 a5 b0 b1 b2 b3 b4 b5 W.drew:=hx.drew
 generalize hS:Bx2 w.heap.size (w.heap.size+1) a0 a1 a2 a3 a4 a5 b0 b1 b2 b3 b4 b5=S at hS0
 have Hk:=hide (And.intro hb hx)
 clear hx hb
 refine wp_region_head 4 S (by rfl) (by kernel_rfl) ?_
 refine HT.take 0 (v:=?_) rfl (by kernel_rfl) (fun _ _ _ h=>h) (Or.inl ⟨by rfl,?_⟩) ‹_› ?_
 rotate_left
 ·intro W hSw;rw[←hS] at hSw;obtain⟨⟨s0,s1,s2,s3,s4,s5⟩,⟨t0,t1,t2,t3,t4,t5⟩⟩:=hSw;go_simp;with_reducible rfl
 simp only[Act.put,zzA,zzZ,zzS]
 refine HT.take 2 (v:=?_) rfl (by kernel_rfl) (fun _ _ _ h=>h) (Or.inl ⟨by rfl,?_⟩) ‹_› ?_
 rotate_left
 ·intro W hSw;rw[←hS] at hSw;obtain⟨⟨s0,s1,s2,s3,s4,s5⟩,⟨t0,t1,t2,t3,t4,t5⟩⟩:=hSw;go_simp;with_reducible rfl
 simp only[Act.put,zzA,zzZ,zzS]
 refine HT.one 1 rfl (by kernel_rfl) (by rfl) (fun K hK=>?_)
 go_simp
 refine(clean_calls r1 W.drew _ (H1.out.at_ (below_drew Hk.out.1))).mono ?_
 rintro e w1 ⟨v1,rfl,hv1,hb1⟩
 obtain⟨x0,x1,x2,x3,x4,x5,rfl⟩:=hv1.six
 have hbW:Below W.heap.size W w1:=below_drew' hb1
 go_simp
 refine hK.out _ _ (by rw[←hS];exact Hk.out.2.below hbW (by omega) (by omega)) ?_
 clear hK
 refine HT.one 3 rfl (by kernel_rfl) (by rfl) (fun K hK=>?_)
 go_simp
 refine(clean_calls r2 w1 _ (H2.out.at_ (Hk.out.1.trans (hbW.mono Hk.out.1.size)))).mono ?_
 rintro e w2 ⟨v2,rfl,hv2,hb2⟩
 obtain⟨y0,y1,y2,y3,y4,y5,rfl⟩:=hv2.six
 have hbW2:Below W.heap.size W w2:=hbW.trans (hb2.mono hbW.size)
 go_simp
 refine hK.out _ _ (by rw[←hS];exact Hk.out.2.below hbW2 (by omega) (by omega)) ?_
 refine HT.done (by kernel_rfl) ?_
 simp only[List.drop_succ_cons,List.drop_zero]
 have hfin:=specEq_all r1.tree r2.tree w2 _ _ (RVAt.at_ (hv1.mono fun b hb=>(hb.resolve_left id).2) hb2) (hv2.mono fun b hb=>(hb.resolve_left id).2)
 rw[Hc.out] at hfin
 have Hfin:=hide hfin
 have Hb2:=hide (Hk.out.1.trans (hbW2.mono Hk.out.1.size))
 clear hK hS0 hS hv1 hv2 hb1 hb2 hbW hbW2 hfin
 go_wp2_with fail
 refine Hfin.out.mono ?_
 rintro e w3 ⟨rfl,hb3⟩
 have Hb3:=hide (Hb2.out.trans (hb3.mono Hb2.out.size))
 clear hb3
 go_wp2
 go_ret
 exact⟨rfl,Hb3.out⟩
end Go.Proofs.YtbicoknghdgahaaGreat
