import Derived.Test.YtbicoknghdgahaaGreatRA02
set_option linter.unusedVariables false
set_option linter.unusedSimpArgs false
namespace Go.Proofs.YtbicoknghdgahaaGreat
open Go.RowKit
attribute [local go_sem] run_store_float
theorem elem_ord (r:REl):r.elem.ord=if r.kind=1 then 1 else if r.kind=2 then 2 else if r.kind=3 then 3 else 0:=by
 unfold REl.elem
 repeat' split
 all_goals rfl
set_option maxRecDepth 100000 in
theorem elemRank_calls (r:REl) (w:World) (cs:List Value) (h:ElemAt (Old w) w r cs):Calls Tryz.prog 117 #[.agg cs.toArray] w (CmpPost r.elem.ord w):=by
 rw[elem_ord]
 cases h with
 | @mk kind n s keys l v KA LA kc lc v0 v1 v2 v3 vA vB vn vc vm vd h1 h2 h3 h4 h5=>
 simp only
 clear h2 h3 h4 h5
 by_cases k1:kind=1
 ·subst k1
  go_enter Tryz.func117,Tryz.ntmps117
  go_wp2
  go_ret
  exact⟨rfl,(Below.refl _ _).alloc (Nat.le_refl _) _⟩
 have e1:(kind==1)=false:=by simpa using k1
 rw[if_neg k1]
 by_cases k2:kind=2
 ·subst k2
  go_enter Tryz.func117,Tryz.ntmps117
  go_wp2
  go_ret
  exact⟨rfl,(Below.refl _ _).alloc (Nat.le_refl _) _⟩
 have e2:(kind==2)=false:=by simpa using k2
 rw[if_neg k2]
 by_cases k3:kind=3
 ·subst k3
  go_enter Tryz.func117,Tryz.ntmps117
  go_wp2
  go_ret
  exact⟨rfl,(Below.refl _ _).alloc (Nat.le_refl _) _⟩
 have e3:(kind==3)=false:=by simpa using k3
 rw[if_neg k3]
 go_enter Tryz.func117,Tryz.ntmps117
 go_wp2
 go_ret
 exact⟨rfl,(Below.refl _ _).alloc (Nat.le_refl _) _⟩
def REl.fl (r:REl):List (ByteArray × T):=r.keys.zip (r.l.map RV.tree)
theorem fl_length (r:REl):r.fl.length=min r.keys.length r.l.length:=by simp[REl.fl]
theorem fl_at (r:REl) {k:Nat} (h1:k<r.keys.length) (h2:k<r.l.length):r.fl[k]? = some (r.keys[k],(r.l[k]).tree):=by
 have hl:k<r.fl.length:=by rw[fl_length];omega
 rw[List.getElem?_eq_getElem hl]
 simp[REl.fl]
end Go.Proofs.YtbicoknghdgahaaGreat
namespace Go.Proofs.YtbicoknghdgahaaGreat
open Go.RowKit
attribute [local go_sem] run_store_float
theorem eqv_cases (r1 r2:REl) (h:r1.elem.ord=r2.elem.ord):(r1.elem.ord=1∧E.eqv r1.elem r2.elem=T.eqvM r1.fl r2.fl)∨(r1.elem.ord=2∧E.eqv r1.elem r2.elem=T.eqv r1.v.tree r2.v.tree)∨(r1.elem.ord=3∧E.eqv r1.elem r2.elem=(r1.n==r2.n))∨(r1.elem.ord=0∧E.eqv r1.elem r2.elem=decide (r1.s=r2.s)):=by
 unfold REl.elem at *
 repeat' split at h
 all_goals first | (simp[E.ord] at h;done) | skip
 ·exact .inl ⟨by simp_all [E.ord],by simp_all [E.eqv,REl.fl]⟩
 ·exact .inr (.inl ⟨by simp_all [E.ord],by simp_all [E.eqv]⟩)
 ·exact .inr (.inr (.inl ⟨by simp_all [E.ord],by simp_all [E.eqv]⟩))
 ·exact .inr (.inr (.inr ⟨by simp_all [E.ord],by simp_all [E.eqv]⟩))
theorem eqv_ord {a b:E} (h:a.ord≠b.ord):E.eqv a b=false:=by
 cases a <;> cases b <;> first | rfl | exact absurd rfl h
theorem eqvM_len:∀{a b:List (ByteArray × T)},a.length≠b.length→T.eqvM a b=false
 | [],[],h=>absurd rfl h
 | [],_::_,_=>by simp[T.eqvM]
 | _::_,[],_=>by simp[T.eqvM]
 | (k,a)::ps,(l,b)::bs,h=>by rw[T.eqvM,eqvM_len (fun e=>h (by simp[e]))];simp
theorem eqvM_round {z1 z2:List (ByteArray × T)} {k:Nat} {x y:ByteArray} {s t:T} (h:T.eqvM z1 z2=T.eqvM (z1.drop k) (z2.drop k)) (h1:z1[k]? = some (x,s)) (h2:z2[k]? = some (y,t)):(¬x=y→T.eqvM z1 z2=false)∧(x=y→T.eqv s t=false→T.eqvM z1 z2=false)∧(x=y→T.eqv s t=true→T.eqvM z1 z2=T.eqvM (z1.drop (k+1)) (z2.drop (k+1))):=by
 obtain⟨l1,e1⟩:=List.getElem?_eq_some_iff.1 h1
 obtain⟨l2,e2⟩:=List.getElem?_eq_some_iff.1 h2
 rw[h,List.drop_eq_getElem_cons l1,List.drop_eq_getElem_cons l2,e1,e2,T.eqvM]
 exact⟨fun e=>by simp[e],fun e e'=>by simp[e'],fun e e'=>by simp[e,e']⟩
def EKyInv (w:World) (a b:Array Value) (m:Nat) (z1 z2:List (ByteArray × T)) (s:Value) (W:World):Prop:=∃k:Nat,s = .int .i64 (k:Int)∧k≤m∧T.eqvM z1 z2=T.eqvM (z1.drop k) (z2.drop k)∧BB w 29 a b W
set_option maxRecDepth 100000 in
set_option maxHeartbeats 4000000 in
theorem equalKeys_calls (r1 r2:REl) (w:World) (cs1 cs2:List Value) (h1:ElemAt (Old w) w r1 cs1) (h2:ElemAt (Old w) w r2 cs2):Calls Tryz.prog 118 #[.agg cs1.toArray,.agg cs2.toArray] w (EqPost (T.eqvM r1.fl r2.fl) w):=by
 obtain⟨a0,a1,a2,a3,a4,a5,a6,a7,a8,a9,aa,ab,ac,ad,ae,af,ag,ah,ai,rfl⟩:=h1.form
 obtain⟨b0,b1,b2,b3,b4,b5,b6,b7,b8,b9,ba,bb,bc,bd,be,bf,bg,bh,bi,rfl⟩:=h2.form
 obtain⟨hk1,hl1,xs1,hL1,hX1⟩:∃(hk:a3=r1.keys.length) (hl:a6=r1.l.length) (xs:List Value),Row (Old w) w 6 a5 r1.l.length xs∧∀(i:Nat) r,r1.l[i]? = some r→RVAt (Old w) w r ((xs.drop (i*6)).take 6):=by
  cases h1 with
  | mk _ _ h3=>cases h3 with | mk _ _ _ _ _ _ _ _ _ _ _ _ hL hX=>exact⟨rfl,rfl,_,hL,hX⟩
 obtain⟨hK1,hn1,hs1⟩:Row (Old w) w 1 a2 r1.keys.length (r1.keys.map Value.string)∧(r1.keys.length*16≤R47∧r1.l.length*88≤R47)∧∀k ∈ r1.keys,k.size≤R47:=by
  cases h1 with
  | mk _ _ h3=>cases h3 with | mk _ _ _ _ q1 q2 q3 _ _ _ _ hK _ _=>exact⟨hK,⟨q2,q3⟩,q1⟩
 obtain⟨hk2,hl2,xs2,hL2,hX2⟩:∃(hk:b3=r2.keys.length) (hl:b6=r2.l.length) (xs:List Value),Row (Old w) w 6 b5 r2.l.length xs∧∀(i:Nat) r,r2.l[i]? = some r→RVAt (Old w) w r ((xs.drop (i*6)).take 6):=by
  cases h2 with
  | mk _ _ h3=>cases h3 with | mk _ _ _ _ _ _ _ _ _ _ _ _ hL hX=>exact⟨rfl,rfl,_,hL,hX⟩
 obtain⟨hK2,hn2,hs2⟩:Row (Old w) w 1 b2 r2.keys.length (r2.keys.map Value.string)∧(r2.keys.length*16≤R47∧r2.l.length*88≤R47)∧∀k ∈ r2.keys,k.size≤R47:=by
  cases h2 with
  | mk _ _ h3=>cases h3 with | mk _ _ _ _ q1 q2 q3 _ _ _ _ hK _ _=>exact⟨hK,⟨q2,q3⟩,q1⟩
 subst hk1 hl1 hk2 hl2
 have n1:r1.keys.length≤8796093022208:=by have:=hn1.1;unfold R47 at this;omega
 have n2:r1.l.length≤8796093022208:=by have:=hn1.2;unfold R47 at this;omega
 have n3:r2.keys.length≤8796093022208:=by have:=hn2.1;unfold R47 at this;omega
 have n4:r2.l.length≤8796093022208:=by have:=hn2.2;unfold R47 at this;omega
 have hf1:=fl_length r1
 have hf2:=fl_length r2
 have H1:=hide (And.intro hK1 (And.intro hs1 (And.intro hL1 hX1)))
 have H2:=hide (And.intro hK2 (And.intro hs2 (And.intro hL2 hX2)))
 have F1:=hide fun(k:Nat) (x:ByteArray) (r:RV) (h1:r1.keys[k]? = some x) (h2:r1.l[k]? = some r)=>(show r1.fl[k]? = some (x,r.tree) from by
  obtain⟨l1,e1⟩:=List.getElem?_eq_some_iff.1 h1
  obtain⟨l2,e2⟩:=List.getElem?_eq_some_iff.1 h2
  rw[fl_at r1 l1 l2,e1,e2])
 have F2:=hide fun(k:Nat) (x:ByteArray) (r:RV) (h1:r2.keys[k]? = some x) (h2:r2.l[k]? = some r)=>(show r2.fl[k]? = some (x,r.tree) from by
  obtain⟨l1,e1⟩:=List.getElem?_eq_some_iff.1 h1
  obtain⟨l2,e2⟩:=List.getElem?_eq_some_iff.1 h2
  rw[fl_at r2 l1 l2,e1,e2])
 generalize r1.fl=z1 at *
 generalize r2.fl=z2 at *
 generalize r1.keys=K1 at *
 generalize r1.l=L1 at *
 generalize r2.keys=K2 at *
 generalize r2.l=L2 at *
 obtain⟨c,hcv⟩:∃c,T.eqvM z1 z2=c:=⟨_,rfl⟩
 rw[hcv]
 have Hc:=hide hcv
 obtain⟨kn1,hkn1⟩:∃n,K1.length=n:=⟨_,rfl⟩
 obtain⟨ln1,hln1⟩:∃n,L1.length=n:=⟨_,rfl⟩
 obtain⟨kn2,hkn2⟩:∃n,K2.length=n:=⟨_,rfl⟩
 obtain⟨ln2,hln2⟩:∃n,L2.length=n:=⟨_,rfl⟩
 rw[hkn1,hln1] at hf1
 rw[hkn2,hln2] at hf2
 have Hf:=hide (And.intro hf1 hf2)
 rw[hkn1] at n1
 rw[hln1] at n2
 rw[hkn2] at n3
 rw[hln2] at n4
 rw[hkn1,hln1,hkn2,hln2]
 have Hn:=hide (And.intro hkn1 (And.intro hln1 (And.intro hkn2 hln2)))
 obtain⟨m1,hm1,hm1k,hm1l,hz1⟩:∃m:Nat,(if ln1<kn1 then (ln1:Int) else (kn1:Int))=(m:Int)∧m≤kn1∧m≤ln1∧z1.length=m:=by
  split
  ·exact⟨ln1,rfl,by omega,by omega,by omega⟩
  ·exact⟨kn1,rfl,by omega,by omega,by omega⟩
 obtain⟨m2,hm2,hm2k,hm2l,hz2⟩:∃m:Nat,(if ln2<kn2 then (ln2:Int) else (kn2:Int))=(m:Int)∧m≤kn2∧m≤ln2∧z2.length=m:=by
  split
  ·exact⟨ln2,rfl,by omega,by omega,by omega⟩
  ·exact⟨kn2,rfl,by omega,by omega,by omega⟩
 have Hm1:=hide hm1
 have Hm2:=hide hm2
 have Hz:=hide (And.intro hz1 hz2)
 clear h1 h2 hL1 hX1 hL2 hX2 hK1 hn1 hs1 hK2 hn2 hs2 hcv hf1 hf2 hkn1 hln1 hkn2 hln2 hm1 hm2 hz1 hz2
 go_enter Tryz.func118,Tryz.ntmps118
 go_upto_region 1 with fail
 have st:=BB.made w 29 #[.int .i64 a0,.string a1,.slice a2 kn1 a4,.slice a5 ln1 a7,.int .i64 a8,.int .i64 a9,.float .f64 aa,.string ab,.slice ac ad ae,.slice af ag ah,.int .i64 ai] #[.int .i64 b0,.string b1,.slice b2 kn2 b4,.slice b5 ln2 b7,.int .i64 b8,.int .i64 b9,.float .f64 ba,.string bb,.slice bc bd be,.slice bf bg bh,.int .i64 bi]
 generalize World.alloc (World.alloc w _) _=W at st ⊢
 replace st:=st.call (below_drew (Below.refl _ _))
 have hS0:=st
 obtain⟨S,hS⟩:∃S,BB w 29 #[.int .i64 a0,.string a1,.slice a2 kn1 a4,.slice a5 ln1 a7,.int .i64 a8,.int .i64 a9,.float .f64 aa,.string ab,.slice ac ad ae,.slice af ag ah,.int .i64 ai] #[.int .i64 b0,.string b1,.slice b2 kn2 b4,.slice b5 ln2 b7,.int .i64 b8,.int .i64 b9,.float .f64 ba,.string bb,.slice bc bd be,.slice bf bg bh,.int .i64 bi]=S:=⟨_,rfl⟩
 rw[hS] at hS0
 refine wp_region_head 15 S (by rfl) (by kernel_rfl) ?_
 have hX:=hide (fun(W:World) (hSw:S W)=>have hSw:=Eq.mpr (congrFun hS W) hSw;And.intro (hSw.a.cells11) (hSw.b.cells11))
 iterate 15
  refine HT.nx (v:=?_) rfl (by kernel_rfl) (fun _ _ _ h=>h) (Or.inl ⟨by rfl,?_⟩) ‹_› ?_
  rotate_left
  ·intro W hSw;have hSw:=hX.out W hSw;go_simp;with_reducible rfl
  simp only[Act.put,zzA,zzZ,zzS]
 clear hX
 refine HT.done (by kernel_rfl) ?_
 simp only[List.drop_succ_cons,List.drop_zero]
 have H0:=hide st
 clear hS0 hS st
 rw[Hm1.out,Hm2.out]
 by_cases hmm:m1=m2
 case neg=>
  have hce:c=false:=by rw[←Hc.out];exact eqvM_len (by rw[Hz.out.1,Hz.out.2];exact hmm)
  subst hce
  have g1:¬(m1:Int)=(m2:Int):=by omega
  have g2:((m1:Int)==(m2:Int))=false:=beq_eq_false_iff_ne.2 g1
  have g3:((m1:Int) != (m2:Int))=true:=bne_iff_ne.2 g1
  go_wp2
  go_ret
  exact⟨rfl,H0.out.below⟩
 subst hmm
 go_wp2_with fail
 go_loopw [7] (fun s W=>EKyInv w #[.int .i64 a0,.string a1,.slice a2 kn1 a4,.slice a5 ln1 a7,.int .i64 a8,.int .i64 a9,.float .f64 aa,.string ab,.slice ac ad ae,.slice af ag ah,.int .i64 ai] #[.int .i64 b0,.string b1,.slice b2 kn2 b4,.slice b5 ln2 b7,.int .i64 b8,.int .i64 b9,.float .f64 ba,.string bb,.slice bc bd be,.slice bf bg bh,.int .i64 bi] m1 z1 z2 s W) (fun s _=>m1-(intOf s).toNat)
 case atStart=>exact⟨0,rfl,Nat.zero_le _,by simp,H0.out⟩
 case round=>
  obtain⟨k,rfl,hk,heq,st⟩:=hrel
  have hki0:(0:Int)≤(k:Int):=Int.natCast_nonneg _
  by_cases hlt:k<m1
  ·have hki1:(k:Int)<(m1:Int):=by omega
   have j1:(k:Int)<(kn1:Int):=by omega
   have j2:(k:Int)<(ln1:Int):=by omega
   have j3:(k:Int)<(kn2:Int):=by omega
   have j4:(k:Int)<(ln2:Int):=by omega
   obtain⟨x,hx⟩:∃x,K1[k]? = some x:=⟨_,List.getElem?_eq_getElem (by rw[Hn.out.1];omega)⟩
   obtain⟨r,hr⟩:∃r,L1[k]? = some r:=⟨_,List.getElem?_eq_getElem (by rw[Hn.out.2.1];omega)⟩
   obtain⟨y,hy⟩:∃x,K2[k]? = some x:=⟨_,List.getElem?_eq_getElem (by rw[Hn.out.2.2.1];omega)⟩
   obtain⟨t,ht⟩:∃r,L2[k]? = some r:=⟨_,List.getElem?_eq_getElem (by rw[Hn.out.2.2.2];omega)⟩
   have hrd:=eqvM_round heq (F1.out k x r hx hr) (F2.out k y t hy ht)
   rw[Hc.out] at hrd
   obtain⟨xb,xo,exa,hFx,hcx⟩:=row1_at (u:=.string x) H1.out.1 (k:=k) (by rw[Hn.out.1];omega) (by rw[List.getElem?_map,hx];rfl)
   obtain⟨yb,yo,eya,hFy,hcy⟩:=row1_at (u:=.string y) H2.out.1 (k:=k) (by rw[Hn.out.2.2.1];omega) (by rw[List.getElem?_map,hy];rfl)
   have hvr:=H1.out.2.2.2 k r hr
   have hvt:=H2.out.2.2.2 k t ht
   generalize hcs1:(xs1.drop (k*6)).take 6=vs1 at hvr
   generalize hcs2:(xs2.drop (k*6)).take 6=vs2 at hvt
   obtain⟨u0,u1,u2,u3,u4,u5,u6,u7,u8,u9,rfl⟩:=hvr.form
   obtain⟨t0,t1,t2,t3,t4,t5,t6,t7,t8,t9,rfl⟩:=hvt.form
   obtain⟨rb,ro,era,hFr,c0,c1,c2,c3,c4,c5⟩:=row6_at H1.out.2.2.1 (k:=k) (by rw[Hn.out.2.1];omega) hcs1
   obtain⟨tb,tof,eta,hFt,d0,d1,d2,d3,d4,d5⟩:=row6_at H2.out.2.2.1 (k:=k) (by rw[Hn.out.2.2.2];omega) hcs2
   subst exa eya era eta
   have HV:=hide fun(W:World) (hb:Below w.heap.size w W)=>specEqual_calls r t W _ _ (hvr.at_ hb) (hvt.at_ hb)
   obtain⟨vx,hvx⟩:∃v,T.eqv r.tree t.tree=v:=⟨_,rfl⟩
   rw[hvx] at HV hrd
   have Hrd:=hide hrd
   have HR:=hide (And.intro hFx (And.intro hFy (And.intro hFr (And.intro hFt (And.intro hcx (And.intro hcy (And.intro (And.intro c0 (And.intro c1 (And.intro c2 (And.intro c3 (And.intro c4 c5))))) (And.intro d0 (And.intro d1 (And.intro d2 (And.intro d3 (And.intro d4 d5))))))))))))
   clear hrd heq hx hr hy ht hcs1 hcs2 hvr hvt hvx hcx hcy c0 c1 c2 c3 c4 c5 d0 d1 d2 d3 d4 d5 hFx hFy hFr hFt
   replace st:=st.call (below_drew (Below.refl _ _))
   have hS0:=st
   obtain⟨S,hS⟩:∃S,BB w 29 #[.int .i64 a0,.string a1,.slice (some ⟨xb,xo,none⟩) kn1 a4,.slice (some ⟨rb,ro,none⟩) ln1 a7,.int .i64 a8,.int .i64 a9,.float .f64 aa,.string ab,.slice ac ad ae,.slice af ag ah,.int .i64 ai] #[.int .i64 b0,.string b1,.slice (some ⟨yb,yo,none⟩) kn2 b4,.slice (some ⟨tb,tof,none⟩) ln2 b7,.int .i64 b8,.int .i64 b9,.float .f64 ba,.string bb,.slice bc bd be,.slice bf bg bh,.int .i64 bi]=S:=⟨_,rfl⟩
   rw[hS] at hS0
   have Hst:=hide st
   clear st
   by_cases hxy:x=y
   ·subst hxy
    go_wp2_with fail
    refine wp_region_head 24 S (by rfl) (by kernel_rfl) ?_
    have hX:=hide (fun(W:World) (hSw:S W)=>have hSw:=Eq.mpr (congrFun hS W) hSw;have ec:=(bcell hSw.below).1;And.intro (hSw.a.cells11) (And.intro (hSw.b.cells11) (And.intro ((ec _ _ HR.out.1).trans HR.out.2.2.2.2.1) (And.intro ((ec _ _ HR.out.2.1).trans HR.out.2.2.2.2.2.1) (And.intro ((ec _ _ HR.out.2.2.1).trans HR.out.2.2.2.2.2.2.1.1) (And.intro ((ec _ _ HR.out.2.2.1).trans HR.out.2.2.2.2.2.2.1.2.1) (And.intro ((ec _ _ HR.out.2.2.1).trans HR.out.2.2.2.2.2.2.1.2.2.1) (And.intro ((ec _ _ HR.out.2.2.1).trans HR.out.2.2.2.2.2.2.1.2.2.2.1) (And.intro ((ec _ _ HR.out.2.2.1).trans HR.out.2.2.2.2.2.2.1.2.2.2.2.1) (And.intro ((ec _ _ HR.out.2.2.1).trans HR.out.2.2.2.2.2.2.1.2.2.2.2.2) (And.intro ((ec _ _ HR.out.2.2.2.1).trans HR.out.2.2.2.2.2.2.2.1) (And.intro ((ec _ _ HR.out.2.2.2.1).trans HR.out.2.2.2.2.2.2.2.2.1) (And.intro ((ec _ _ HR.out.2.2.2.1).trans HR.out.2.2.2.2.2.2.2.2.2.1) (And.intro ((ec _ _ HR.out.2.2.2.1).trans HR.out.2.2.2.2.2.2.2.2.2.2.1) (And.intro ((ec _ _ HR.out.2.2.2.1).trans HR.out.2.2.2.2.2.2.2.2.2.2.2.1) ((ec _ _ HR.out.2.2.2.1).trans HR.out.2.2.2.2.2.2.2.2.2.2.2.2))))))))))))))))
    iterate 22
     refine HT.nx (v:=?_) rfl (by kernel_rfl) (fun _ _ _ h=>h) (Or.inl ⟨by rfl,?_⟩) ‹_› ?_
     rotate_left
     ·intro W hSw;have hSw:=hX.out W hSw;go_simp;with_reducible rfl
     simp only[Act.put,zzA,zzZ,zzS]
    clear hX
    refine HT.one 22 rfl (by kernel_rfl) (by rfl) (fun K hK=>?_)
    go_simp
    refine(HV.out _ Hst.out.below).mono ?_
    rintro e w1 ⟨rfl,hb1⟩
    have st1:=Hst.out.call hb1
    have hS1:S w1:=by rw[←hS];exact st1
    go_simp
    refine hK.out _ _ (by rw[←hS];exact st1) ?_
    clear hK
    refine HT.take 23 (v:=?_) rfl (by kernel_rfl) (fun _ _ _ h=>h) (Or.inl ⟨by rfl,?_⟩) ‹_› ?_
    rotate_left
    ·intro W hSw;go_simp;with_reducible rfl
    simp only[Act.put,zzA,zzZ,zzS]
    refine HT.done (by kernel_rfl) ?_
    simp only[List.drop_succ_cons,List.drop_zero]
    have H1s:=hide st1
    clear st1 hb1 hS0 hS1 hS Hst HV
    cases vx
    ·have hs:=Hrd.out.2.1 trivial rfl
     subst hs
     clear Hrd
     go_wp2
     go_ret
     exact⟨rfl,H1s.out.below⟩
    ·have hs:=Hrd.out.2.2 trivial rfl
     have Hs:=hide (Hc.out.trans hs)
     clear hs Hrd
     go_wp2_with fail
     exact⟨⟨k+1,by go_num,by omega,Hs.out,H1s.out⟩,by simp[intOf];omega⟩
   ·have hs:=Hrd.out.1 hxy
    have hxl:(x.toList==y.toList)=false:=by rw[str_eq];simpa using hxy
    subst hs
    have Hxy:=hide hxy
    clear Hrd HV hxy
    go_wp2_with fail
    refine wp_region_head 24 S (by rfl) (by kernel_rfl) ?_
    have hX:=hide (fun(W:World) (hSw:S W)=>have hSw:=Eq.mpr (congrFun hS W) hSw;have ec:=(bcell hSw.below).1;And.intro (hSw.a.cells11) (And.intro (hSw.b.cells11) (And.intro ((ec _ _ HR.out.1).trans HR.out.2.2.2.2.1) (And.intro ((ec _ _ HR.out.2.1).trans HR.out.2.2.2.2.2.1) (And.intro ((ec _ _ HR.out.2.2.1).trans HR.out.2.2.2.2.2.2.1.1) (And.intro ((ec _ _ HR.out.2.2.1).trans HR.out.2.2.2.2.2.2.1.2.1) (And.intro ((ec _ _ HR.out.2.2.1).trans HR.out.2.2.2.2.2.2.1.2.2.1) (And.intro ((ec _ _ HR.out.2.2.1).trans HR.out.2.2.2.2.2.2.1.2.2.2.1) (And.intro ((ec _ _ HR.out.2.2.1).trans HR.out.2.2.2.2.2.2.1.2.2.2.2.1) (And.intro ((ec _ _ HR.out.2.2.1).trans HR.out.2.2.2.2.2.2.1.2.2.2.2.2) (And.intro ((ec _ _ HR.out.2.2.2.1).trans HR.out.2.2.2.2.2.2.2.1) (And.intro ((ec _ _ HR.out.2.2.2.1).trans HR.out.2.2.2.2.2.2.2.2.1) (And.intro ((ec _ _ HR.out.2.2.2.1).trans HR.out.2.2.2.2.2.2.2.2.2.1) (And.intro ((ec _ _ HR.out.2.2.2.1).trans HR.out.2.2.2.2.2.2.2.2.2.2.1) (And.intro ((ec _ _ HR.out.2.2.2.1).trans HR.out.2.2.2.2.2.2.2.2.2.2.2.1) ((ec _ _ HR.out.2.2.2.1).trans HR.out.2.2.2.2.2.2.2.2.2.2.2.2))))))))))))))))
    iterate 12
     refine HT.nx (v:=?_) rfl (by kernel_rfl) (fun _ _ _ h=>h) (Or.inl ⟨by rfl,?_⟩) ‹_› ?_
     rotate_left
     ·intro W hSw;have hSw:=hX.out W hSw;go_simp;with_reducible rfl
     simp only[Act.put,zzA,zzZ,zzS]
    clear hX
    refine HT.take 12 (v:=undef) rfl (by kernel_rfl) (fun _ _ _ h=>h) (Or.inr ⟨by rfl,rfl⟩) ‹_› ?_
    simp only[Act.put,zzA,zzZ,zzS]
    refine HT.take 13 (v:=undef) rfl (by kernel_rfl) (fun _ _ _ h=>h) (Or.inr ⟨by rfl,rfl⟩) ‹_› ?_
    simp only[Act.put,zzA,zzZ,zzS]
    refine HT.take 14 (v:=undef) rfl (by kernel_rfl) (fun _ _ _ h=>h) (Or.inr ⟨by rfl,rfl⟩) ‹_› ?_
    simp only[Act.put,zzA,zzZ,zzS]
    refine HT.take 15 (v:=undef) rfl (by kernel_rfl) (fun _ _ _ h=>h) (Or.inr ⟨by rfl,rfl⟩) ‹_› ?_
    simp only[Act.put,zzA,zzZ,zzS]
    refine HT.take 16 (v:=undef) rfl (by kernel_rfl) (fun _ _ _ h=>h) (Or.inr ⟨by rfl,rfl⟩) ‹_› ?_
    simp only[Act.put,zzA,zzZ,zzS]
    refine HT.take 17 (v:=undef) rfl (by kernel_rfl) (fun _ _ _ h=>h) (Or.inr ⟨by rfl,rfl⟩) ‹_› ?_
    simp only[Act.put,zzA,zzZ,zzS]
    refine HT.take 18 (v:=undef) rfl (by kernel_rfl) (fun _ _ _ h=>h) (Or.inr ⟨by rfl,rfl⟩) ‹_› ?_
    simp only[Act.put,zzA,zzZ,zzS]
    refine HT.take 19 (v:=undef) rfl (by kernel_rfl) (fun _ _ _ h=>h) (Or.inr ⟨by rfl,rfl⟩) ‹_› ?_
    simp only[Act.put,zzA,zzZ,zzS]
    refine HT.take 20 (v:=undef) rfl (by kernel_rfl) (fun _ _ _ h=>h) (Or.inr ⟨by rfl,rfl⟩) ‹_› ?_
    simp only[Act.put,zzA,zzZ,zzS]
    refine HT.take 21 (v:=undef) rfl (by kernel_rfl) (fun _ _ _ h=>h) (Or.inr ⟨by rfl,rfl⟩) ‹_› ?_
    simp only[Act.put,zzA,zzZ,zzS]
    refine HT.take 22 (v:=undef) rfl (by kernel_rfl) (fun _ _ _ h=>h) (Or.inr ⟨by rfl,rfl⟩) ‹_› ?_
    simp only[Act.put,zzA,zzZ,zzS]
    refine HT.take 23 (v:=undef) rfl (by kernel_rfl) (fun _ _ _ h=>h) (Or.inr ⟨by rfl,rfl⟩) ‹_› ?_
    simp only[Act.put,zzA,zzZ,zzS]
    refine HT.done (by kernel_rfl) ?_
    simp only[List.drop_succ_cons,List.drop_zero]
    clear hS0 hS
    go_wp2
    go_ret
    exact⟨rfl,Hst.out.below⟩
  ·have hki1:¬(k:Int)<(m1:Int):=by omega
   have hce:c=true:=by
    have e1:z1.drop k=[]:=List.drop_eq_nil_of_le (by rw[Hz.out.1];omega)
    have e2:z2.drop k=[]:=List.drop_eq_nil_of_le (by rw[Hz.out.2];omega)
    rw[Hc.out,e1,e2] at heq
    rw[heq]
    simp[T.eqvM]
   subst hce
   have Hst:=hide st
   clear st heq
   go_wp2
   go_ret
   exact⟨rfl,Hst.out.below⟩
set_option maxRecDepth 100000 in
set_option maxHeartbeats 4000000 in
theorem specEE_ne (r1 r2:REl) (w:World) (cs1 cs2:List Value) (h1:ElemAt (Old w) w r1 cs1) (h2:ElemAt (Old w) w r2 cs2) (ho:r1.elem.ord≠r2.elem.ord):Calls Tryz.prog 65 #[.agg cs1.toArray,.agg cs2.toArray] w (EqPost (E.eqv r1.elem r2.elem) w):=by
 obtain⟨a0,a1,a2,a3,a4,a5,a6,a7,a8,a9,aa,ab,ac,ad,ae,af,ag,ah,ai,rfl⟩:=h1.form
 obtain⟨b0,b1,b2,b3,b4,b5,b6,b7,b8,b9,ba,bb,bc,bd,be,bf,bg,bh,bi,rfl⟩:=h2.form
 obtain⟨rfl,rfl,rfl,hs1⟩:=h1.parts
 obtain⟨rfl,rfl,rfl,hs2⟩:=h2.parts
 have R1:=hide fun(W:World) (hb:Below w.heap.size w W)=>elemRank_calls r1 W _ (h1.at_ hb)
 have R2:=hide fun(W:World) (hb:Below w.heap.size w W)=>elemRank_calls r2 W _ (h2.at_ hb)
 rw[eqv_ord ho]
 generalize r1.elem.ord=o1 at *
 generalize r2.elem.ord=o2 at *
 clear h1 h2 hs1 hs2
 have g2:(o1==o2)=false:=by simpa using ho
 have g3:(o1 != o2)=true:=by simpa using ho
 go_enter Tryz.func65,Tryz.ntmps65
 go_upto_region 1 with fail
 have st:=BB.made w 29 #[.int .i64 r1.kind,.string r1.s,.slice a2 a3 a4,.slice a5 a6 a7,.int .i64 a8,.int .i64 a9,.float .f64 aa,.string ab,.slice ac ad ae,.slice af ag ah,.int .i64 r1.n] #[.int .i64 r2.kind,.string r2.s,.slice b2 b3 b4,.slice b5 b6 b7,.int .i64 b8,.int .i64 b9,.float .f64 ba,.string bb,.slice bc bd be,.slice bf bg bh,.int .i64 r2.n]
 generalize World.alloc (World.alloc w _) _=W at st ⊢
 replace st:=st.call (below_drew (Below.refl _ _))
 have hS0:=st
 obtain⟨S,hS⟩:∃S,BB w 29 #[.int .i64 r1.kind,.string r1.s,.slice a2 a3 a4,.slice a5 a6 a7,.int .i64 a8,.int .i64 a9,.float .f64 aa,.string ab,.slice ac ad ae,.slice af ag ah,.int .i64 r1.n] #[.int .i64 r2.kind,.string r2.s,.slice b2 b3 b4,.slice b5 b6 b7,.int .i64 b8,.int .i64 b9,.float .f64 ba,.string bb,.slice bc bd be,.slice bf bg bh,.int .i64 r2.n]=S:=⟨_,rfl⟩
 rw[hS] at hS0
 refine wp_region_head 4 S (by rfl) (by kernel_rfl) ?_
 have hX:=hide (fun(W:World) (hSw:S W)=>have hSw:=Eq.mpr (congrFun hS W) hSw;And.intro (hSw.a.cells11) (hSw.b.cells11))
 refine HT.take 0 (v:=?_) rfl (by kernel_rfl) (fun _ _ _ h=>h) (Or.inl ⟨by rfl,?_⟩) ‹_› ?_
 rotate_left
 ·intro W hSw;have hSw:=hX.out W hSw;go_simp;with_reducible rfl
 simp only[Act.put,zzA,zzZ,zzS]
 refine HT.take 2 (v:=?_) rfl (by kernel_rfl) (fun _ _ _ h=>h) (Or.inl ⟨by rfl,?_⟩) ‹_› ?_
 rotate_left
 ·intro W hSw;have hSw:=hX.out W hSw;go_simp;with_reducible rfl
 simp only[Act.put,zzA,zzZ,zzS]
 clear hX
 refine HT.one 1 rfl (by kernel_rfl) (by rfl) (fun K hK=>?_)
 go_simp
 refine(R1.out _ st.below).mono ?_
 rintro e w1 ⟨rfl,hb1⟩
 have st1:=st.call hb1
 go_simp
 refine hK.out _ _ (by rw[←hS];exact st1) ?_
 clear hK
 refine HT.one 3 rfl (by kernel_rfl) (by rfl) (fun K hK=>?_)
 go_simp
 refine(R2.out _ st1.below).mono ?_
 rintro e w2 ⟨rfl,hb2⟩
 have st2:=st1.call hb2
 go_simp
 refine hK.out _ _ (by rw[←hS];exact st2) ?_
 clear hK
 refine HT.done (by kernel_rfl) ?_
 simp only[List.drop_succ_cons,List.drop_zero]
 have Hb:=hide st2.below
 clear hS0 hS hb1 hb2 st1 st2 st R1 R2
 go_wp2
 go_ret
 exact⟨rfl,Hb.out⟩
set_option maxRecDepth 100000 in
set_option maxHeartbeats 4000000 in
theorem specEE_1 (r1 r2:REl) (w:World) (cs1 cs2:List Value) (h1:ElemAt (Old w) w r1 cs1) (h2:ElemAt (Old w) w r2 cs2) (h3:r1.elem.ord=1) (h4:r2.elem.ord=1) (h5:E.eqv r1.elem r2.elem=T.eqvM r1.fl r2.fl):Calls Tryz.prog 65 #[.agg cs1.toArray,.agg cs2.toArray] w (EqPost (E.eqv r1.elem r2.elem) w):=by
 obtain⟨a0,a1,a2,a3,a4,a5,a6,a7,a8,a9,aa,ab,ac,ad,ae,af,ag,ah,ai,rfl⟩:=h1.form
 obtain⟨b0,b1,b2,b3,b4,b5,b6,b7,b8,b9,ba,bb,bc,bd,be,bf,bg,bh,bi,rfl⟩:=h2.form
 obtain⟨rfl,rfl,rfl,hs1⟩:=h1.parts
 obtain⟨rfl,rfl,rfl,hs2⟩:=h2.parts
 have R1:=hide fun(W:World) (hb:Below w.heap.size w W)=>elemRank_calls r1 W _ (h1.at_ hb)
 have R2:=hide fun(W:World) (hb:Below w.heap.size w W)=>elemRank_calls r2 W _ (h2.at_ hb)
 have HX:=hide fun(W:World) (hb:Below w.heap.size w W)=>equalKeys_calls r1 r2 W _ _ (h1.at_ hb) (h2.at_ hb)
 rw[h3] at R1
 rw[h4] at R2
 rw[h5]
 generalize T.eqvM r1.fl r2.fl=v at *
 clear h1 h2 hs1 hs2 h3 h4 h5
 go_enter Tryz.func65,Tryz.ntmps65
 go_upto_region 1 with fail
 have st:=BB.made w 29 #[.int .i64 r1.kind,.string r1.s,.slice a2 a3 a4,.slice a5 a6 a7,.int .i64 a8,.int .i64 a9,.float .f64 aa,.string ab,.slice ac ad ae,.slice af ag ah,.int .i64 r1.n] #[.int .i64 r2.kind,.string r2.s,.slice b2 b3 b4,.slice b5 b6 b7,.int .i64 b8,.int .i64 b9,.float .f64 ba,.string bb,.slice bc bd be,.slice bf bg bh,.int .i64 r2.n]
 generalize World.alloc (World.alloc w _) _=W at st ⊢
 replace st:=st.call (below_drew (Below.refl _ _))
 have hS0:=st
 obtain⟨S,hS⟩:∃S,BB w 29 #[.int .i64 r1.kind,.string r1.s,.slice a2 a3 a4,.slice a5 a6 a7,.int .i64 a8,.int .i64 a9,.float .f64 aa,.string ab,.slice ac ad ae,.slice af ag ah,.int .i64 r1.n] #[.int .i64 r2.kind,.string r2.s,.slice b2 b3 b4,.slice b5 b6 b7,.int .i64 b8,.int .i64 b9,.float .f64 ba,.string bb,.slice bc bd be,.slice bf bg bh,.int .i64 r2.n]=S:=⟨_,rfl⟩
 rw[hS] at hS0
 refine wp_region_head 4 S (by rfl) (by kernel_rfl) ?_
 have hX:=hide (fun(W:World) (hSw:S W)=>have hSw:=Eq.mpr (congrFun hS W) hSw;And.intro (hSw.a.cells11) (hSw.b.cells11))
 refine HT.take 0 (v:=?_) rfl (by kernel_rfl) (fun _ _ _ h=>h) (Or.inl ⟨by rfl,?_⟩) ‹_› ?_
 rotate_left
 ·intro W hSw;have hSw:=hX.out W hSw;go_simp;with_reducible rfl
 simp only[Act.put,zzA,zzZ,zzS]
 refine HT.take 2 (v:=?_) rfl (by kernel_rfl) (fun _ _ _ h=>h) (Or.inl ⟨by rfl,?_⟩) ‹_› ?_
 rotate_left
 ·intro W hSw;have hSw:=hX.out W hSw;go_simp;with_reducible rfl
 simp only[Act.put,zzA,zzZ,zzS]
 clear hX
 refine HT.one 1 rfl (by kernel_rfl) (by rfl) (fun K hK=>?_)
 go_simp
 refine(R1.out _ st.below).mono ?_
 rintro e w1 ⟨rfl,hb1⟩
 have st1:=st.call hb1
 go_simp
 refine hK.out _ _ (by rw[←hS];exact st1) ?_
 clear hK
 refine HT.one 3 rfl (by kernel_rfl) (by rfl) (fun K hK=>?_)
 go_simp
 refine(R2.out _ st1.below).mono ?_
 rintro e w2 ⟨rfl,hb2⟩
 have st2:=st1.call hb2
 go_simp
 refine hK.out _ _ (by rw[←hS];exact st2) ?_
 clear hK
 refine HT.done (by kernel_rfl) ?_
 simp only[List.drop_succ_cons,List.drop_zero]
 obtain⟨p0,p1,p2,p3,p4,p5,p6,p7,p8,p9,p10⟩:=st2.a.cells11
 obtain⟨q0,q1,q2,q3,q4,q5,q6,q7,q8,q9,q10⟩:=st2.b.cells11
 have Hst:=hide st2
 clear hS0 hS hb1 hb2 st1 st2 st R2
 go_wp2_with fail
 refine(R1.out _ Hst.out.below).mono ?_
 rintro e w4 ⟨rfl,hb4⟩
 have st4:=Hst.out.call hb4
 clear hb4 p0 p1 p2 p3 p4 p5 p6 p7 p8 p9 p10 q0 q1 q2 q3 q4 q5 q6 q7 q8 q9 q10 Hst R1
 obtain⟨p0,p1,p2,p3,p4,p5,p6,p7,p8,p9,p10⟩:=st4.a.cells11
 obtain⟨q0,q1,q2,q3,q4,q5,q6,q7,q8,q9,q10⟩:=st4.b.cells11
 have Hst:=hide st4
 clear st4
 go_wp2_with fail
 refine(HX.out _ Hst.out.below).mono ?_
 rintro e w5 ⟨rfl,hb5⟩
 have Hb5:=hide (Hst.out.below.trans (hb5.mono Hst.out.below.size))
 clear hb5
 go_wp2
 go_ret
 exact⟨rfl,Hb5.out⟩
set_option maxRecDepth 100000 in
set_option maxHeartbeats 4000000 in
theorem specEE_2 (r1 r2:REl) (w:World) (cs1 cs2:List Value) (h1:ElemAt (Old w) w r1 cs1) (h2:ElemAt (Old w) w r2 cs2) (h3:r1.elem.ord=2) (h4:r2.elem.ord=2) (h5:E.eqv r1.elem r2.elem=T.eqv r1.v.tree r2.v.tree):Calls Tryz.prog 65 #[.agg cs1.toArray,.agg cs2.toArray] w (EqPost (E.eqv r1.elem r2.elem) w):=by
 obtain⟨a0,a1,a2,a3,a4,a5,a6,a7,a8,a9,aa,ab,ac,ad,ae,af,ag,ah,ai,rfl⟩:=h1.form
 obtain⟨b0,b1,b2,b3,b4,b5,b6,b7,b8,b9,ba,bb,bc,bd,be,bf,bg,bh,bi,rfl⟩:=h2.form
 obtain⟨rfl,rfl,rfl,hs1⟩:=h1.parts
 obtain⟨rfl,rfl,rfl,hs2⟩:=h2.parts
 have R1:=hide fun(W:World) (hb:Below w.heap.size w W)=>elemRank_calls r1 W _ (h1.at_ hb)
 have R2:=hide fun(W:World) (hb:Below w.heap.size w W)=>elemRank_calls r2 W _ (h2.at_ hb)
 have HX:=hide fun(W:World) (hb:Below w.heap.size w W)=>specEqual_calls r1.v r2.v W _ _ (h1.value.at_ hb) (h2.value.at_ hb)
 rw[h3] at R1
 rw[h4] at R2
 rw[h5]
 generalize T.eqv r1.v.tree r2.v.tree=v at *
 clear h1 h2 hs1 hs2 h3 h4 h5
 go_enter Tryz.func65,Tryz.ntmps65
 go_upto_region 1 with fail
 have st:=BB.made w 29 #[.int .i64 r1.kind,.string r1.s,.slice a2 a3 a4,.slice a5 a6 a7,.int .i64 a8,.int .i64 a9,.float .f64 aa,.string ab,.slice ac ad ae,.slice af ag ah,.int .i64 r1.n] #[.int .i64 r2.kind,.string r2.s,.slice b2 b3 b4,.slice b5 b6 b7,.int .i64 b8,.int .i64 b9,.float .f64 ba,.string bb,.slice bc bd be,.slice bf bg bh,.int .i64 r2.n]
 generalize World.alloc (World.alloc w _) _=W at st ⊢
 replace st:=st.call (below_drew (Below.refl _ _))
 have hS0:=st
 obtain⟨S,hS⟩:∃S,BB w 29 #[.int .i64 r1.kind,.string r1.s,.slice a2 a3 a4,.slice a5 a6 a7,.int .i64 a8,.int .i64 a9,.float .f64 aa,.string ab,.slice ac ad ae,.slice af ag ah,.int .i64 r1.n] #[.int .i64 r2.kind,.string r2.s,.slice b2 b3 b4,.slice b5 b6 b7,.int .i64 b8,.int .i64 b9,.float .f64 ba,.string bb,.slice bc bd be,.slice bf bg bh,.int .i64 r2.n]=S:=⟨_,rfl⟩
 rw[hS] at hS0
 refine wp_region_head 4 S (by rfl) (by kernel_rfl) ?_
 have hX:=hide (fun(W:World) (hSw:S W)=>have hSw:=Eq.mpr (congrFun hS W) hSw;And.intro (hSw.a.cells11) (hSw.b.cells11))
 refine HT.take 0 (v:=?_) rfl (by kernel_rfl) (fun _ _ _ h=>h) (Or.inl ⟨by rfl,?_⟩) ‹_› ?_
 rotate_left
 ·intro W hSw;have hSw:=hX.out W hSw;go_simp;with_reducible rfl
 simp only[Act.put,zzA,zzZ,zzS]
 refine HT.take 2 (v:=?_) rfl (by kernel_rfl) (fun _ _ _ h=>h) (Or.inl ⟨by rfl,?_⟩) ‹_› ?_
 rotate_left
 ·intro W hSw;have hSw:=hX.out W hSw;go_simp;with_reducible rfl
 simp only[Act.put,zzA,zzZ,zzS]
 clear hX
 refine HT.one 1 rfl (by kernel_rfl) (by rfl) (fun K hK=>?_)
 go_simp
 refine(R1.out _ st.below).mono ?_
 rintro e w1 ⟨rfl,hb1⟩
 have st1:=st.call hb1
 go_simp
 refine hK.out _ _ (by rw[←hS];exact st1) ?_
 clear hK
 refine HT.one 3 rfl (by kernel_rfl) (by rfl) (fun K hK=>?_)
 go_simp
 refine(R2.out _ st1.below).mono ?_
 rintro e w2 ⟨rfl,hb2⟩
 have st2:=st1.call hb2
 go_simp
 refine hK.out _ _ (by rw[←hS];exact st2) ?_
 clear hK
 refine HT.done (by kernel_rfl) ?_
 simp only[List.drop_succ_cons,List.drop_zero]
 obtain⟨p0,p1,p2,p3,p4,p5,p6,p7,p8,p9,p10⟩:=st2.a.cells11
 obtain⟨q0,q1,q2,q3,q4,q5,q6,q7,q8,q9,q10⟩:=st2.b.cells11
 have Hst:=hide st2
 clear hS0 hS hb1 hb2 st1 st2 st R2
 go_wp2_with fail
 refine(R1.out _ Hst.out.below).mono ?_
 rintro e w4 ⟨rfl,hb4⟩
 have st4:=Hst.out.call hb4
 clear hb4 p0 p1 p2 p3 p4 p5 p6 p7 p8 p9 p10 q0 q1 q2 q3 q4 q5 q6 q7 q8 q9 q10 Hst R1
 obtain⟨p0,p1,p2,p3,p4,p5,p6,p7,p8,p9,p10⟩:=st4.a.cells11
 obtain⟨q0,q1,q2,q3,q4,q5,q6,q7,q8,q9,q10⟩:=st4.b.cells11
 have Hst:=hide st4
 clear st4
 go_wp2_with fail
 refine(HX.out _ Hst.out.below).mono ?_
 rintro e w5 ⟨rfl,hb5⟩
 have Hb5:=hide (Hst.out.below.trans (hb5.mono Hst.out.below.size))
 clear hb5
 go_wp2
 go_ret
 exact⟨rfl,Hb5.out⟩
set_option maxRecDepth 100000 in
set_option maxHeartbeats 4000000 in
theorem specEE_3 (r1 r2:REl) (w:World) (cs1 cs2:List Value) (h1:ElemAt (Old w) w r1 cs1) (h2:ElemAt (Old w) w r2 cs2) (h3:r1.elem.ord=3) (h4:r2.elem.ord=3) (h5:E.eqv r1.elem r2.elem=(r1.n==r2.n)):Calls Tryz.prog 65 #[.agg cs1.toArray,.agg cs2.toArray] w (EqPost (E.eqv r1.elem r2.elem) w):=by
 obtain⟨a0,a1,a2,a3,a4,a5,a6,a7,a8,a9,aa,ab,ac,ad,ae,af,ag,ah,ai,rfl⟩:=h1.form
 obtain⟨b0,b1,b2,b3,b4,b5,b6,b7,b8,b9,ba,bb,bc,bd,be,bf,bg,bh,bi,rfl⟩:=h2.form
 obtain⟨rfl,rfl,rfl,hs1⟩:=h1.parts
 obtain⟨rfl,rfl,rfl,hs2⟩:=h2.parts
 have R1:=hide fun(W:World) (hb:Below w.heap.size w W)=>elemRank_calls r1 W _ (h1.at_ hb)
 have R2:=hide fun(W:World) (hb:Below w.heap.size w W)=>elemRank_calls r2 W _ (h2.at_ hb)
 rw[h3] at R1
 rw[h4] at R2
 rw[h5]
 have hs1':r1.s.size≤140737488351232:=hs1
 have hs2':r2.s.size≤140737488351232:=hs2
 clear h1 h2 hs1 hs2 h3 h4 h5
 go_enter Tryz.func65,Tryz.ntmps65
 go_upto_region 1 with fail
 have st:=BB.made w 29 #[.int .i64 r1.kind,.string r1.s,.slice a2 a3 a4,.slice a5 a6 a7,.int .i64 a8,.int .i64 a9,.float .f64 aa,.string ab,.slice ac ad ae,.slice af ag ah,.int .i64 r1.n] #[.int .i64 r2.kind,.string r2.s,.slice b2 b3 b4,.slice b5 b6 b7,.int .i64 b8,.int .i64 b9,.float .f64 ba,.string bb,.slice bc bd be,.slice bf bg bh,.int .i64 r2.n]
 generalize World.alloc (World.alloc w _) _=W at st ⊢
 replace st:=st.call (below_drew (Below.refl _ _))
 have hS0:=st
 obtain⟨S,hS⟩:∃S,BB w 29 #[.int .i64 r1.kind,.string r1.s,.slice a2 a3 a4,.slice a5 a6 a7,.int .i64 a8,.int .i64 a9,.float .f64 aa,.string ab,.slice ac ad ae,.slice af ag ah,.int .i64 r1.n] #[.int .i64 r2.kind,.string r2.s,.slice b2 b3 b4,.slice b5 b6 b7,.int .i64 b8,.int .i64 b9,.float .f64 ba,.string bb,.slice bc bd be,.slice bf bg bh,.int .i64 r2.n]=S:=⟨_,rfl⟩
 rw[hS] at hS0
 refine wp_region_head 4 S (by rfl) (by kernel_rfl) ?_
 have hX:=hide (fun(W:World) (hSw:S W)=>have hSw:=Eq.mpr (congrFun hS W) hSw;And.intro (hSw.a.cells11) (hSw.b.cells11))
 refine HT.take 0 (v:=?_) rfl (by kernel_rfl) (fun _ _ _ h=>h) (Or.inl ⟨by rfl,?_⟩) ‹_› ?_
 rotate_left
 ·intro W hSw;have hSw:=hX.out W hSw;go_simp;with_reducible rfl
 simp only[Act.put,zzA,zzZ,zzS]
 refine HT.take 2 (v:=?_) rfl (by kernel_rfl) (fun _ _ _ h=>h) (Or.inl ⟨by rfl,?_⟩) ‹_› ?_
 rotate_left
 ·intro W hSw;have hSw:=hX.out W hSw;go_simp;with_reducible rfl
 simp only[Act.put,zzA,zzZ,zzS]
 clear hX
 refine HT.one 1 rfl (by kernel_rfl) (by rfl) (fun K hK=>?_)
 go_simp
 refine(R1.out _ st.below).mono ?_
 rintro e w1 ⟨rfl,hb1⟩
 have st1:=st.call hb1
 go_simp
 refine hK.out _ _ (by rw[←hS];exact st1) ?_
 clear hK
 refine HT.one 3 rfl (by kernel_rfl) (by rfl) (fun K hK=>?_)
 go_simp
 refine(R2.out _ st1.below).mono ?_
 rintro e w2 ⟨rfl,hb2⟩
 have st2:=st1.call hb2
 go_simp
 refine hK.out _ _ (by rw[←hS];exact st2) ?_
 clear hK
 refine HT.done (by kernel_rfl) ?_
 simp only[List.drop_succ_cons,List.drop_zero]
 obtain⟨p0,p1,p2,p3,p4,p5,p6,p7,p8,p9,p10⟩:=st2.a.cells11
 obtain⟨q0,q1,q2,q3,q4,q5,q6,q7,q8,q9,q10⟩:=st2.b.cells11
 have Hst:=hide st2
 clear hS0 hS hb1 hb2 st1 st2 st R2
 go_wp2_with fail
 refine(R1.out _ Hst.out.below).mono ?_
 rintro e w4 ⟨rfl,hb4⟩
 have st4:=Hst.out.call hb4
 clear hb4 p0 p1 p2 p3 p4 p5 p6 p7 p8 p9 p10 q0 q1 q2 q3 q4 q5 q6 q7 q8 q9 q10 Hst R1
 obtain⟨p0,p1,p2,p3,p4,p5,p6,p7,p8,p9,p10⟩:=st4.a.cells11
 obtain⟨q0,q1,q2,q3,q4,q5,q6,q7,q8,q9,q10⟩:=st4.b.cells11
 have Hst:=hide st4
 clear st4
 go_wp2
 go_ret
 exact⟨ret_bool (by first | rfl | exact(str_eq _ _) | simp),Hst.out.below⟩
set_option maxRecDepth 100000 in
set_option maxHeartbeats 4000000 in
theorem specEE_0 (r1 r2:REl) (w:World) (cs1 cs2:List Value) (h1:ElemAt (Old w) w r1 cs1) (h2:ElemAt (Old w) w r2 cs2) (h3:r1.elem.ord=0) (h4:r2.elem.ord=0) (h5:E.eqv r1.elem r2.elem=decide (r1.s=r2.s)):Calls Tryz.prog 65 #[.agg cs1.toArray,.agg cs2.toArray] w (EqPost (E.eqv r1.elem r2.elem) w):=by
 obtain⟨a0,a1,a2,a3,a4,a5,a6,a7,a8,a9,aa,ab,ac,ad,ae,af,ag,ah,ai,rfl⟩:=h1.form
 obtain⟨b0,b1,b2,b3,b4,b5,b6,b7,b8,b9,ba,bb,bc,bd,be,bf,bg,bh,bi,rfl⟩:=h2.form
 obtain⟨rfl,rfl,rfl,hs1⟩:=h1.parts
 obtain⟨rfl,rfl,rfl,hs2⟩:=h2.parts
 have R1:=hide fun(W:World) (hb:Below w.heap.size w W)=>elemRank_calls r1 W _ (h1.at_ hb)
 have R2:=hide fun(W:World) (hb:Below w.heap.size w W)=>elemRank_calls r2 W _ (h2.at_ hb)
 rw[h3] at R1
 rw[h4] at R2
 rw[h5]
 have hs1':r1.s.size≤140737488351232:=hs1
 have hs2':r2.s.size≤140737488351232:=hs2
 clear h1 h2 hs1 hs2 h3 h4 h5
 go_enter Tryz.func65,Tryz.ntmps65
 go_upto_region 1 with fail
 have st:=BB.made w 29 #[.int .i64 r1.kind,.string r1.s,.slice a2 a3 a4,.slice a5 a6 a7,.int .i64 a8,.int .i64 a9,.float .f64 aa,.string ab,.slice ac ad ae,.slice af ag ah,.int .i64 r1.n] #[.int .i64 r2.kind,.string r2.s,.slice b2 b3 b4,.slice b5 b6 b7,.int .i64 b8,.int .i64 b9,.float .f64 ba,.string bb,.slice bc bd be,.slice bf bg bh,.int .i64 r2.n]
 generalize World.alloc (World.alloc w _) _=W at st ⊢
 replace st:=st.call (below_drew (Below.refl _ _))
 have hS0:=st
 obtain⟨S,hS⟩:∃S,BB w 29 #[.int .i64 r1.kind,.string r1.s,.slice a2 a3 a4,.slice a5 a6 a7,.int .i64 a8,.int .i64 a9,.float .f64 aa,.string ab,.slice ac ad ae,.slice af ag ah,.int .i64 r1.n] #[.int .i64 r2.kind,.string r2.s,.slice b2 b3 b4,.slice b5 b6 b7,.int .i64 b8,.int .i64 b9,.float .f64 ba,.string bb,.slice bc bd be,.slice bf bg bh,.int .i64 r2.n]=S:=⟨_,rfl⟩
 rw[hS] at hS0
 refine wp_region_head 4 S (by rfl) (by kernel_rfl) ?_
 have hX:=hide (fun(W:World) (hSw:S W)=>have hSw:=Eq.mpr (congrFun hS W) hSw;And.intro (hSw.a.cells11) (hSw.b.cells11))
 refine HT.take 0 (v:=?_) rfl (by kernel_rfl) (fun _ _ _ h=>h) (Or.inl ⟨by rfl,?_⟩) ‹_› ?_
 rotate_left
 ·intro W hSw;have hSw:=hX.out W hSw;go_simp;with_reducible rfl
 simp only[Act.put,zzA,zzZ,zzS]
 refine HT.take 2 (v:=?_) rfl (by kernel_rfl) (fun _ _ _ h=>h) (Or.inl ⟨by rfl,?_⟩) ‹_› ?_
 rotate_left
 ·intro W hSw;have hSw:=hX.out W hSw;go_simp;with_reducible rfl
 simp only[Act.put,zzA,zzZ,zzS]
 clear hX
 refine HT.one 1 rfl (by kernel_rfl) (by rfl) (fun K hK=>?_)
 go_simp
 refine(R1.out _ st.below).mono ?_
 rintro e w1 ⟨rfl,hb1⟩
 have st1:=st.call hb1
 go_simp
 refine hK.out _ _ (by rw[←hS];exact st1) ?_
 clear hK
 refine HT.one 3 rfl (by kernel_rfl) (by rfl) (fun K hK=>?_)
 go_simp
 refine(R2.out _ st1.below).mono ?_
 rintro e w2 ⟨rfl,hb2⟩
 have st2:=st1.call hb2
 go_simp
 refine hK.out _ _ (by rw[←hS];exact st2) ?_
 clear hK
 refine HT.done (by kernel_rfl) ?_
 simp only[List.drop_succ_cons,List.drop_zero]
 obtain⟨p0,p1,p2,p3,p4,p5,p6,p7,p8,p9,p10⟩:=st2.a.cells11
 obtain⟨q0,q1,q2,q3,q4,q5,q6,q7,q8,q9,q10⟩:=st2.b.cells11
 have Hst:=hide st2
 clear hS0 hS hb1 hb2 st1 st2 st R2
 go_wp2_with fail
 refine(R1.out _ Hst.out.below).mono ?_
 rintro e w4 ⟨rfl,hb4⟩
 have st4:=Hst.out.call hb4
 clear hb4 p0 p1 p2 p3 p4 p5 p6 p7 p8 p9 p10 q0 q1 q2 q3 q4 q5 q6 q7 q8 q9 q10 Hst R1
 obtain⟨p0,p1,p2,p3,p4,p5,p6,p7,p8,p9,p10⟩:=st4.a.cells11
 obtain⟨q0,q1,q2,q3,q4,q5,q6,q7,q8,q9,q10⟩:=st4.b.cells11
 have Hst:=hide st4
 clear st4
 go_wp2
 go_ret
 exact⟨ret_bool (by first | rfl | exact(str_eq _ _) | simp),Hst.out.below⟩
theorem specEqualElems_calls (r1 r2:REl) (w:World) (cs1 cs2:List Value) (h1:ElemAt (Old w) w r1 cs1) (h2:ElemAt (Old w) w r2 cs2):Calls Tryz.prog 65 #[.agg cs1.toArray,.agg cs2.toArray] w (EqPost (E.eqv r1.elem r2.elem) w):=by
 by_cases ho:r1.elem.ord=r2.elem.ord
 ·rcases eqv_cases r1 r2 ho with ⟨h3,h4⟩ | ⟨h3,h4⟩ | ⟨h3,h4⟩ | ⟨h3,h4⟩
  ·exact specEE_1 r1 r2 w cs1 cs2 h1 h2 h3 (ho ▸ h3) h4
  ·exact specEE_2 r1 r2 w cs1 cs2 h1 h2 h3 (ho ▸ h3) h4
  ·exact specEE_3 r1 r2 w cs1 cs2 h1 h2 h3 (ho ▸ h3) h4
  ·exact specEE_0 r1 r2 w cs1 cs2 h1 h2 h3 (ho ▸ h3) h4
 ·exact specEE_ne r1 r2 w cs1 cs2 h1 h2 ho
end Go.Proofs.YtbicoknghdgahaaGreat
