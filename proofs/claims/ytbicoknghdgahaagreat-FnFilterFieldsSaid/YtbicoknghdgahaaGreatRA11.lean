import Derived.Test.YtbicoknghdgahaaGreatRA10
set_option linter.unusedVariables false
set_option linter.unusedSimpArgs false
namespace Go.Proofs.YtbicoknghdgahaaGreat
open Go.RowKit
attribute [local go_sem] run_store_float
theorem eqE_peqv:∀(l m:List E),eqE l m=peqv l m
 | [],[]=>rfl
 | [],_::_=>rfl
 | _::_,[]=>rfl
 | a::l,b::m=>by rw[eqE,peqv,eqE_peqv l m]
theorem eqK_len {u:St→St→Bool}:∀{l m:List (E × St)},l.length≠m.length→eqS.eqK u l m=false
 | [],[],h=>absurd rfl h
 | [],_::_,_=>rfl
 | _::_,[],_=>rfl
 | a::l,b::m,h=>by rw[eqS.eqK,eqK_len (fun e=>h (by simp[e])),Bool.and_false]
theorem eqK_drop {u:St→St→Bool}{l m:List (E × St)}{k:Nat}(h1:k<l.length) (h2:k<m.length):eqS.eqK u (l.drop k) (m.drop k)=(E.eqv (l[k]).1 (m[k]).1&&u (l[k]).2 (m[k]).2&&eqS.eqK u (l.drop (k+1)) (m.drop (k+1))):=by
 rw[List.drop_eq_getElem_cons h1,List.drop_eq_getElem_cons h2,eqS.eqK]
def SEKInv (u:St→St→Bool) (w:World) (m m':List (E × St)) (s:Value) (W:World):Prop:=∃k:Nat,s = .int .i64 (k:Int)∧k≤m.length∧eqS.eqK u m m'=eqS.eqK u (m.drop k) (m'.drop k)∧Below w.heap.size w W
set_option maxRecDepth 100000 in
set_option maxHeartbeats 8000000 in
theorem esEquals_calls {w:World}{g g':Nat}{m m':List E}{MA MB:Option Addr}{mc md:Nat}{xs ys:List Value}(hg:g<w.heap.size) (hg':g'<w.heap.size) (m0:w.cell? ⟨g,0,none⟩=some (.slice MA m.length mc)) (n0:w.cell? ⟨g',0,none⟩=some (.slice MB m'.length md))
  (hr:Row (Old w) w 4 MA m.length xs) (hr':Row (Old w) w 4 MB m'.length ys) (hx:Cells 4 (PEAt (Old w) w) m xs) (hy:Cells 4 (PEAt (Old w) w) m' ys) (h47:m.length*32≤R47) :
  Calls Tryz.prog 159 #[.pointer (some ⟨g,0,none⟩),.pointer (some ⟨g',0,none⟩)] w (EqPost (eqE m m') w):=by
 rw[eqE_peqv]
 have h47':m.length*32≤140737488351232:=h47
 by_cases hlen:m.length=m'.length
 case neg=>
  rw[peqv_len hlen]
  have hli:¬(m.length:Int)=(m'.length:Int):=by omega
  have hlb:((m.length:Int)==(m'.length:Int))=false:=beq_eq_false_iff_ne.2 hli
  have hlb2:((m.length:Int) != (m'.length:Int))=true:=by simp[bne,hlb]
  clear hr hr' hx hy hlen
  generalize m.length=M at *
  generalize m'.length=M1 at *
  go_enter Tryz.func159,Tryz.ntmps159
  go_wp2_with fail
  go_quiet (fail)
  go_wp2
  go_ret
  exact⟨rfl,below_drewN (Below.refl _ _) _⟩
 obtain⟨n,hn⟩:∃n,m.length=n:=⟨_,rfl⟩
 have hn':m'.length=n:=by omega
 obtain⟨r,hrr⟩:∃r,peqv m m'=r:=⟨_,rfl⟩
 rw[hrr]
 rw[hn] at m0 hr h47'
 rw[hn'] at n0 hr'
 have Hr:=hide (And.intro hrr (And.intro hn hn'))
 have H7:=hide (And.intro hr (And.intro hx (And.intro hr' (And.intro hy (And.intro hg (And.intro hg' (And.intro m0 n0)))))))
 skip
 clear hr hr' hx hy hrr hn hn' hlen h47
 have hbeq:((n:Int) != (n:Int))=false:=by simp
 go_enter Tryz.func159,Tryz.ntmps159
 go_wp2_with fail
 go_quiet (fail)
 generalize hw0:World.drewN w _=w0
 have hbw0:Below w.heap.size w w0:=by rw[←hw0];exact below_drewN (Below.refl _ _) _
 have m0':=((bcell hbw0).1 _ _ hg).trans m0
 have n0':=((bcell hbw0).1 _ _ hg').trans n0
 have Hw0:=hide hbw0
 clear hw0 hbw0 m0 n0
 go_wp2_with fail
 go_loopw [22] (fun s W=>PQInv w m m' s W) (fun s _=>n-(intOf s).toNat)
 case atStart=>exact⟨0,rfl,Nat.zero_le _,by simp,Hw0.out⟩
 case round=>
  clear m0' n0'
  obtain⟨k,rfl,hk1,heq,hb⟩:=hrel
  rw[Hr.out.2.1] at hk1
  have hki0:(0:Int)≤(k:Int):=Int.natCast_nonneg _
  by_cases hp:k<n
  ·have hpi:(k:Int)<(n:Int):=by omega
   have hp1:k<m.length:=by rw[Hr.out.2.1];exact hp
   have hq1:k<m'.length:=by rw[Hr.out.2.2];exact hp
   have hx:=H7.out.2.1.at_ hp1
   have hy:=H7.out.2.2.2.1.at_ hq1
   have hrd:=peqv_round heq hp1 hq1
   generalize m[k]=x at *
   generalize m'[k]=y at *
   generalize hcs:(xs.drop (k*4)).take 4=fcs at hx
   generalize hds:(ys.drop (k*4)).take 4=gcs at hy
   obtain⟨p0,p1,p2,p3,rfl⟩:=hx.form
   obtain⟨q0,q1,q2,q3,rfl⟩:=hy.form
   obtain⟨rb,ro,rfl,hF,hc⟩:=rown_at H7.out.1 hp hcs
   obtain⟨sb,so,rfl,hG,hd⟩:=rown_at H7.out.2.2.1 hp hds
   have HR:=hide (And.intro (show rb<w.heap.size from hF) (And.intro (show sb<w.heap.size from hG) (And.intro hc hd)))
   have ec:=(bcell hb).1
   have a0:=(ec _ _ H7.out.2.2.2.2.1).trans H7.out.2.2.2.2.2.2.1
   have b0:=(ec _ _ H7.out.2.2.2.2.2.1).trans H7.out.2.2.2.2.2.2.2
   have c0:=(ec _ _ HR.out.1).trans (HR.out.2.2.1 0 _ rfl)
   have c1:=(ec _ _ HR.out.1).trans (HR.out.2.2.1 1 _ rfl)
   have c2:=(ec _ _ HR.out.1).trans (HR.out.2.2.1 2 _ rfl)
   have c3:=(ec _ _ HR.out.1).trans (HR.out.2.2.1 3 _ rfl)
   have d0:=(ec _ _ HR.out.2.1).trans (HR.out.2.2.2 0 _ rfl)
   have d1:=(ec _ _ HR.out.2.1).trans (HR.out.2.2.2 1 _ rfl)
   have d2:=(ec _ _ HR.out.2.1).trans (HR.out.2.2.2 2 _ rfl)
   have d3:=(ec _ _ HR.out.2.1).trans (HR.out.2.2.2 3 _ rfl)
   rw[Nat.add_zero] at c0 d0
   obtain⟨v,hv⟩:∃v,E.eqv x y=v:=⟨_,rfl⟩
   have HC:=hide fun(W:World) (hb:Below w.heap.size w W)=>peEquals_calls (hx.at_ hb) (hy.at_ hb)
   rw[hv] at HC hrd
   rw[Hr.out.1] at hrd
   have Hrd:=hide hrd
   have Hb:=hide hb
   clear hb hx hy hcs hds hc hd ec hF hG hrd heq hv hp1 hq1 hk1
   go_wp2_with fail
   go_still_tail 14,(by kernel_rfl)
   change wpList _ _ _ _ _ wr.drew
   go_wp2_with fail
   refine(HC.out wr.drew (below_drew Hb.out)).mono ?_
   rintro e w1 ⟨rfl,hb1⟩
   have hb1':=Hb.out.trans ((below_drew' hb1).mono Hb.out.size)
   have H1:=hide hb1'
   clear hb1 hb1' a0 b0 c0 c1 c2 c3 d0 d1 d2 d3 HC
   cases v
   ·have hs:=Hrd.out.2 rfl
    subst hs
    clear Hrd
    go_wp2
    go_ret
    exact⟨rfl,H1.out⟩
   ·have hs:=Hrd.out.1 rfl
    have Hs:=hide (Hr.out.1.trans hs)
    clear hs Hrd
    go_wp2_with fail
    exact⟨⟨k+1,by go_num,by rw[Hr.out.2.1];omega,Hs.out,H1.out⟩,by simp[intOf];omega⟩
  ·have hpi:¬(k:Int)<(n:Int):=by omega
   have hr1:r=true:=by
    rw[Hr.out.1] at heq
    rw[List.drop_eq_nil_of_le (by rw[Hr.out.2.1];omega),List.drop_eq_nil_of_le (by rw[Hr.out.2.2];omega)] at heq
    exact heq
   subst hr1
   have Hb:=hide hb
   clear hb heq hk1
   go_wp2
   go_ret
   exact⟨rfl,Hb.out⟩
set_option maxRecDepth 100000 in
set_option maxHeartbeats 8000000 in
theorem nmEquals_calls {u:St→St→Bool}{P P':St→Prop}(IH:∀{W:World}{ga gb:Nat}{s t:St},SetR (Old W) W ga s→SetR (Old W) W gb t→P s→P' t→Calls Tryz.prog 104 #[.pointer (some ⟨ga,0,none⟩),.pointer (some ⟨gb,0,none⟩)] W (EqPost (u s t) W))
  {w:World}{g g':Nat}{m m':List (E × St)}{MA MB:Option Addr}{mc md:Nat}{xs ys:List Value}(hP:∀k ∈ m,P k.2) (hP':∀k ∈ m',P' k.2) (hg:g<w.heap.size) (hg':g'<w.heap.size) (m0:w.cell? ⟨g,1,none⟩=some (.slice MA m.length mc)) (n0:w.cell? ⟨g',1,none⟩=some (.slice MB m'.length md))
  (hr:Row (Old w) w 5 MA m.length xs) (hr':Row (Old w) w 5 MB m'.length ys) (hx:Cells 5 (KQ (Old w) w) m xs) (hy:Cells 5 (KQ (Old w) w) m' ys) (h47:m.length*40≤R47) :
  Calls Tryz.prog 160 #[.pointer (some ⟨g,1,none⟩),.pointer (some ⟨g',1,none⟩)] w (EqPost (eqS.eqK u m m') w):=by
 have h47':m.length*40≤140737488351232:=h47
 by_cases hlen:m.length=m'.length
 case neg=>
  rw[eqK_len hlen]
  have hli:¬(m.length:Int)=(m'.length:Int):=by omega
  have hlb:((m.length:Int)==(m'.length:Int))=false:=beq_eq_false_iff_ne.2 hli
  have hlb2:((m.length:Int) != (m'.length:Int))=true:=by simp[bne,hlb]
  clear hr hr' hx hy hlen hP hP' IH
  generalize m.length=M at *
  generalize m'.length=M1 at *
  go_enter Tryz.func160,Tryz.ntmps160
  go_wp2_with fail
  go_quiet (fail)
  go_wp2
  go_ret
  exact⟨rfl,below_drewN (Below.refl _ _) _⟩
 obtain⟨n,hn⟩:∃n,m.length=n:=⟨_,rfl⟩
 have hn':m'.length=n:=by omega
 obtain⟨r,hrr⟩:∃r,eqS.eqK u m m'=r:=⟨_,rfl⟩
 rw[hrr]
 rw[hn] at m0 hr h47'
 rw[hn'] at n0 hr'
 have Hr:=hide (And.intro hrr (And.intro hn hn'))
 have H7:=hide (And.intro hr (And.intro hx (And.intro hr' (And.intro hy (And.intro hg (And.intro hg' (And.intro m0 n0)))))))
 have HP:=hide (And.intro hP hP')
 clear hr hr' hx hy hrr hn hn' hlen h47 hP hP'
 have hbeq:((n:Int) != (n:Int))=false:=by simp
 go_enter Tryz.func160,Tryz.ntmps160
 go_wp2_with fail
 go_quiet (fail)
 generalize hw0:World.drewN w _=w0
 have hbw0:Below w.heap.size w w0:=by rw[←hw0];exact below_drewN (Below.refl _ _) _
 have m0':=((bcell hbw0).1 _ _ hg).trans m0
 have n0':=((bcell hbw0).1 _ _ hg').trans n0
 have Hw0:=hide hbw0
 clear hw0 hbw0 m0 n0
 go_wp2_with fail
 go_loopw [22] (fun s W=>SEKInv u w m m' s W) (fun s _=>n-(intOf s).toNat)
 case atStart=>exact⟨0,rfl,Nat.zero_le _,by simp,Hw0.out⟩
 case round=>
  clear m0' n0'
  obtain⟨k,rfl,hk1,heq,hb⟩:=hrel
  rw[Hr.out.2.1] at hk1
  have hki0:(0:Int)≤(k:Int):=Int.natCast_nonneg _
  by_cases hp:k<n
  ·have hpi:(k:Int)<(n:Int):=by omega
   have hp1:k<m.length:=by rw[Hr.out.2.1];exact hp
   have hq1:k<m'.length:=by rw[Hr.out.2.2];exact hp
   have hx:=H7.out.2.1.at_ hp1
   have hy:=H7.out.2.2.2.1.at_ hq1
   have hrd:=heq.trans (eqK_drop (u:=u) hp1 hq1)
   have hPa:=HP.out.1 _ (List.getElem_mem hp1)
   have hPb:=HP.out.2 _ (List.getElem_mem hq1)
   generalize m[k]=x at *
   generalize m'[k]=y at *
   generalize hcs:(xs.drop (k*5)).take 5=fcs at hx
   generalize hds:(ys.drop (k*5)).take 5=gcs at hy
   obtain⟨p0,p1,p2,p3,pg,rfl,hxe,hxs⟩:=hx.form
   obtain⟨q0,q1,q2,q3,qg,rfl,hye,hys⟩:=hy.form
   obtain⟨rb,ro,rfl,hF,hc⟩:=rown_at H7.out.1 hp hcs
   obtain⟨sb,so,rfl,hG,hd⟩:=rown_at H7.out.2.2.1 hp hds
   have HR:=hide (And.intro (show rb<w.heap.size from hF) (And.intro (show sb<w.heap.size from hG) (And.intro hc hd)))
   have ec:=(bcell hb).1
   have a0:=(ec _ _ H7.out.2.2.2.2.1).trans H7.out.2.2.2.2.2.2.1
   have b0:=(ec _ _ H7.out.2.2.2.2.2.1).trans H7.out.2.2.2.2.2.2.2
   have c0:=(ec _ _ HR.out.1).trans (HR.out.2.2.1 0 _ rfl)
   have c1:=(ec _ _ HR.out.1).trans (HR.out.2.2.1 1 _ rfl)
   have c2:=(ec _ _ HR.out.1).trans (HR.out.2.2.1 2 _ rfl)
   have c3:=(ec _ _ HR.out.1).trans (HR.out.2.2.1 3 _ rfl)
   have c4:=(ec _ _ HR.out.1).trans (HR.out.2.2.1 4 _ rfl)
   have d0:=(ec _ _ HR.out.2.1).trans (HR.out.2.2.2 0 _ rfl)
   have d1:=(ec _ _ HR.out.2.1).trans (HR.out.2.2.2 1 _ rfl)
   have d2:=(ec _ _ HR.out.2.1).trans (HR.out.2.2.2 2 _ rfl)
   have d3:=(ec _ _ HR.out.2.1).trans (HR.out.2.2.2 3 _ rfl)
   have d4:=(ec _ _ HR.out.2.1).trans (HR.out.2.2.2 4 _ rfl)
   rw[Nat.add_zero] at c0 d0
   obtain⟨v,hv⟩:∃v,E.eqv x.1 y.1=v:=⟨_,rfl⟩
   obtain⟨v2,hv2⟩:∃v2,u x.2 y.2=v2:=⟨_,rfl⟩
   have HC:=hide fun(W:World) (hb:Below w.heap.size w W)=>peEquals_calls (hxe.at_ hb) (hye.at_ hb)
   have HU:=hide fun(W:World) (hb:Below w.heap.size w W)=>IH (hxs.at_ hb) (hys.at_ hb) hPa hPb
   rw[hv] at HC hrd
   rw[hv2] at HU hrd
   rw[Hr.out.1] at hrd
   have Hrd:=hide hrd
   have Hb:=hide hb
   clear hb hx hy hcs hds hc hd ec hF hG hrd heq hv hp1 hq1 hk1 hxe hye hxs hys hPa hPb hv2
   go_wp2_with fail
   go_still_tail 16,(by kernel_rfl)
   change wpList _ _ _ _ _ wr.drew
   go_wp2_with fail
   refine(HC.out wr.drew (below_drew Hb.out)).mono ?_
   rintro e w1 ⟨rfl,hb1⟩
   have hb1':=Hb.out.trans ((below_drew' hb1).mono Hb.out.size)
   have H1:=hide hb1'
   clear hb1 hb1' a0 b0 c0 c1 c2 c3 c4 d0 d1 d2 d3 d4 HC
   cases v
   ·have hs:r=false:=by have:=Hrd.out;simpa using this
    subst hs
    clear Hrd HU
    go_wp2
    go_ret
    exact⟨rfl,H1.out⟩
   ·have ec:=(bcell H1.out).1
    have a0:=(ec _ _ H7.out.2.2.2.2.1).trans H7.out.2.2.2.2.2.2.1
    have b0:=(ec _ _ H7.out.2.2.2.2.2.1).trans H7.out.2.2.2.2.2.2.2
    have c0:=(ec _ _ HR.out.1).trans (HR.out.2.2.1 0 _ rfl)
    have c1:=(ec _ _ HR.out.1).trans (HR.out.2.2.1 1 _ rfl)
    have c2:=(ec _ _ HR.out.1).trans (HR.out.2.2.1 2 _ rfl)
    have c3:=(ec _ _ HR.out.1).trans (HR.out.2.2.1 3 _ rfl)
    have c4:=(ec _ _ HR.out.1).trans (HR.out.2.2.1 4 _ rfl)
    have d0:=(ec _ _ HR.out.2.1).trans (HR.out.2.2.2 0 _ rfl)
    have d1:=(ec _ _ HR.out.2.1).trans (HR.out.2.2.2 1 _ rfl)
    have d2:=(ec _ _ HR.out.2.1).trans (HR.out.2.2.2 2 _ rfl)
    have d3:=(ec _ _ HR.out.2.1).trans (HR.out.2.2.2 3 _ rfl)
    have d4:=(ec _ _ HR.out.2.1).trans (HR.out.2.2.2 4 _ rfl)
    rw[Nat.add_zero] at c0 d0
    clear ec
    go_wp2_with fail
    go_still_tail 16,(by kernel_rfl)
    change wpList _ _ _ _ _ w1.drew
    go_wp2_with fail
    refine(HU.out w1.drew (below_drew H1.out)).mono ?_
    rintro e w2 ⟨rfl,hb2⟩
    have H2:=hide (H1.out.trans ((below_drew' hb2).mono H1.out.size))
    clear hb2 a0 b0 c0 c1 c2 c3 c4 d0 d1 d2 d3 d4 HU
    cases v2
    ·have hs:r=false:=by have:=Hrd.out;simpa using this
     subst hs
     clear Hrd
     go_wp2
     go_ret
     exact⟨rfl,H2.out⟩
    ·have hs:r=eqS.eqK u (m.drop (k+1)) (m'.drop (k+1)):=by have:=Hrd.out;simpa using this
     have Hs:=hide (Hr.out.1.trans hs)
     clear hs Hrd
     go_wp2_with fail
     exact⟨⟨k+1,by go_num,by rw[Hr.out.2.1];omega,Hs.out,H2.out⟩,by simp[intOf];omega⟩
  ·have hpi:¬(k:Int)<(n:Int):=by omega
   have hr1:r=true:=by
    rw[Hr.out.1] at heq
    rw[List.drop_eq_nil_of_le (by rw[Hr.out.2.1];omega),List.drop_eq_nil_of_le (by rw[Hr.out.2.2];omega)] at heq
    exact heq
   subst hr1
   have Hb:=hide hb
   clear hb heq hk1
   go_wp2
   go_ret
   exact⟨rfl,Hb.out⟩
set_option maxRecDepth 100000 in
set_option maxHeartbeats 8000000 in
theorem setEquals_calls:∀{n:Nat}{w:World}{g g':Nat}{s t:St},SetR (Old w) w g s→SetR (Old w) w g' t→s.Ht n→t.Ht n →
  Calls Tryz.prog 104 #[.pointer (some ⟨g,0,none⟩),.pointer (some ⟨g',0,none⟩)] w (EqPost (eqS n s t) w)
 | 0,_,_,_,_,_,_,_,hn,_=>by cases hn
 | n+1,w,g,g',.mk m ks,.mk m' ks',hs,ht,hn,hn'=>by
  have hn1:∀k ∈ ks,k.2.Ht n:=fun k hk=>by cases hn with | mk h=>exact h k hk
  have hn2:∀k ∈ ks',k.2.Ht n:=fun k hk=>by cases hn' with | mk h=>exact h k hk
  have IH:∀{W:World}{ga gb:Nat}{s t:St},SetR (Old W) W ga s→SetR (Old W) W gb t→s.Ht n→t.Ht n→Calls Tryz.prog 104 #[.pointer (some ⟨ga,0,none⟩),.pointer (some ⟨gb,0,none⟩)] W (EqPost (eqS n s t) W):=fun h1 h2 h3 h4=>setEquals_calls h1 h2 h3 h4
  obtain⟨MA,KA,mc,kc,xs,ys,a1,a2,a3,a4,a5,a6,a7,a8,a9,a10,a11,a12⟩:=hs.parts
  obtain⟨MB,KB,md,kd,xs',ys',b1,b2,b3,b4,b5,b6,b7,b8,b9,b10,b11,b12⟩:=ht.parts
  simp only[St.mem,St.kids] at a2 a3 a4 a5 a7 a9 a10 a11 a12 b2 b3 b4 b5 b7 b9 b10 b11 b12
  have ga0:=a2.cell 0
  have ga1:=a2.cell 1
  have gb0:=b2.cell 0
  have gb1:=b2.cell 1
  simp at ga0 ga1 gb0 gb1
  have hg:g<w.heap.size:=a1
  have hg':g'<w.heap.size:=b1
  have kd0:Keeps (Old w) w w.drew:=fun _ _=>rfl
  have H1:=hide (esEquals_calls (w:=w.drew) (m:=m) (m':=m') hg hg' ga0 gb0 (a9.keeps kd0) (b9.keeps kd0) (a11.mono fun _ _ h=>h.keeps kd0) (b11.mono fun _ _ h=>h.keeps kd0) a3)
  have H2:=hide fun(W:World) (hb:Below w.heap.size w W)=>nmEquals_calls (w:=W) IH hn1 hn2 (Nat.lt_of_lt_of_le hg hb.size) (Nat.lt_of_lt_of_le hg' hb.size) (((bcell hb).1 _ _ hg).trans ga1) (((bcell hb).1 _ _ hg').trans gb1)
   ((a10.keeps (Keeps.below hb fun _ h=>h)).mono fun _ h=>Nat.lt_of_lt_of_le h hb.size) ((b10.keeps (Keeps.below hb fun _ h=>h)).mono fun _ h=>Nat.lt_of_lt_of_le h hb.size) (a12.mono fun _ _ h=>KQ.mono (KQ.keeps h (Keeps.below hb fun _ h=>h)) fun _ h=>Nat.lt_of_lt_of_le h hb.size) (b12.mono fun _ _ h=>KQ.mono (KQ.keeps h (Keeps.below hb fun _ h=>h)) fun _ h=>Nat.lt_of_lt_of_le h hb.size) a4
  rw[show eqS (n+1) (.mk m ks) (.mk m' ks')=(eqE m m'&&eqS.eqK (eqS n) ks ks') from rfl]
  clear hs ht hn hn' IH hn1 hn2 a1 a2 a3 a4 a5 a6 a7 a8 a9 a10 a11 a12 b1 b2 b3 b4 b5 b6 b7 b8 b9 b10 b11 b12 ga0 ga1 gb0 gb1 kd0
  generalize eqE m m'=v1 at *
  generalize eqS.eqK (eqS n) ks ks'=v2 at *
  go_enter Tryz.func104,Tryz.ntmps104
  go_wp2_with fail
  refine wp_region_head 15 (fun _=>True) (by rfl) (by kernel_rfl) ?_
  have hS0:(fun _:World=>True) w.drew:=trivial
  iterate 6
   refine HT.nx (v:=?_) rfl (by kernel_rfl) (fun _ _ _ h=>h) (Or.inl ⟨by rfl,?_⟩) ‹_› ?_
   rotate_left
   ·intro W hSw;go_simp;with_reducible rfl
   simp only[Act.put,zzA,zzZ,zzS]
  refine HT.one 6 rfl (by kernel_rfl) (by rfl) (fun K hK=>?_)
  go_simp
  refine H1.out.mono ?_
  rintro en w1 ⟨rfl,hb1⟩
  have hb1':Below w.heap.size w w1:=below_drew' hb1
  have Hb1:=hide hb1'
  clear hb1 hb1' H1
  go_simp
  refine hK.out _ _ trivial ?_
  clear hK K
  cases v1
  ·skip
   refine HT.take 7 (v:=?_) rfl (by kernel_rfl) (fun _ _ _ h=>h) (Or.inl ⟨by rfl,?_⟩) ‹_› ?_
   rotate_left
   ·intro W hSw;go_simp;with_reducible rfl
   simp only[Act.put,zzA,zzZ,zzS]
   refine HT.take 8 (v:=undef) rfl (by kernel_rfl) (fun _ _ _ h=>h) (Or.inr ⟨by rfl,rfl⟩) ‹_› ?_
   simp only[Act.put,zzA,zzZ,zzS]
   refine HT.take 9 (v:=undef) rfl (by kernel_rfl) (fun _ _ _ h=>h) (Or.inr ⟨by rfl,rfl⟩) ‹_› ?_
   simp only[Act.put,zzA,zzZ,zzS]
   refine HT.take 10 (v:=undef) rfl (by kernel_rfl) (fun _ _ _ h=>h) (Or.inr ⟨by rfl,rfl⟩) ‹_› ?_
   simp only[Act.put,zzA,zzZ,zzS]
   refine HT.take 11 (v:=undef) rfl (by kernel_rfl) (fun _ _ _ h=>h) (Or.inr ⟨by rfl,rfl⟩) ‹_› ?_
   simp only[Act.put,zzA,zzZ,zzS]
   refine HT.take 12 (v:=undef) rfl (by kernel_rfl) (fun _ _ _ h=>h) (Or.inr ⟨by rfl,rfl⟩) ‹_› ?_
   simp only[Act.put,zzA,zzZ,zzS]
   refine HT.take 13 (v:=undef) rfl (by kernel_rfl) (fun _ _ _ h=>h) (Or.inr ⟨by rfl,rfl⟩) ‹_› ?_
   simp only[Act.put,zzA,zzZ,zzS]
   refine HT.take 14 (v:=undef) rfl (by kernel_rfl) (fun _ _ _ h=>h) (Or.inr ⟨by rfl,rfl⟩) ‹_› ?_
   simp only[Act.put,zzA,zzZ,zzS]
   refine HT.done (by kernel_rfl) ?_
   simp only[List.drop_succ_cons,List.drop_zero]
   clear hS0 H2
   go_wp2
   go_ret
   exact⟨rfl,Hb1.out⟩
  ·skip
   iterate 7
    refine HT.nx (v:=?_) rfl (by kernel_rfl) (fun _ _ _ h=>h) (Or.inl ⟨by rfl,?_⟩) ‹_› ?_
    rotate_left
    ·intro W hSw;go_simp;with_reducible rfl
    simp only[Act.put,zzA,zzZ,zzS]
   refine HT.one 14 rfl (by kernel_rfl) (by rfl) (fun K hK=>?_)
   go_simp
   refine(H2.out _ Hb1.out).mono ?_
   rintro en w2 ⟨rfl,hb2⟩
   have Hb2:=hide (Hb1.out.trans (hb2.mono Hb1.out.size))
   clear hb2 H2
   go_simp
   refine hK.out _ _ trivial ?_
   clear hK K
   refine HT.done (by kernel_rfl) ?_
   simp only[List.drop_succ_cons,List.drop_zero]
   clear hS0
   go_wp2
   go_ret
   exact⟨rfl,Hb2.out⟩
set_option maxRecDepth 100000 in
set_option maxHeartbeats 4000000 in
theorem implSetEqual_calls {l m:List (List REl)}{A B:Option Addr}{c d N:Nat}{w:World}(h:PathsAt (Old w) w l A c) (h':PathsAt (Old w) w m B d) (hl:∀p ∈ pels l,POk p) (hm:∀p ∈ pels m,POk p) (hn:l.length≤N38) (hn':m.length≤N38) (h1:(setP (pels l)).Ht N) (h2:(setP (pels m)).Ht N) :
  Calls Tryz.prog 50 #[.slice A l.length c,.slice B m.length d] w (EqPost (eqS N (setP (pels l)) (setP (pels m))) w):=by
 have HT1:=hide (toSet_calls h hl hn)
 have HT2:=hide fun(W:World) (hb:Below w.heap.size w W)=>toSet_calls (h'.at_ hb) hm hn'
 have Hx:=hide (And.intro h1 h2)
 clear h h' hl hm hn hn' h1 h2
 generalize setP (pels l)=s at *
 generalize setP (pels m)=t at *
 generalize l.length=k1 at *
 generalize m.length=k2 at *
 obtain⟨v,hv⟩:∃v,eqS N s t=v:=⟨_,rfl⟩
 rw[hv]
 have Hv:=hide hv
 clear hv
 go_enter Tryz.func50,Tryz.ntmps50
 go_wp2_with fail
 refine HT1.out.mono ?_
 intro e w1 hg
 obtain⟨rfl,hr,hb⟩:=hg.read
 have Hr:=hide (And.intro hr hb)
 clear hr hb hg HT1
 go_wp2_with fail
 refine(HT2.out w1 Hr.out.2).mono ?_
 intro e w2 hg
 obtain⟨rfl,hr2,hb2⟩:=hg.read
 have HU:=hide (setEquals_calls (w:=w2) ((Hr.out.1.mono fun b hb=>hb.2:SetR (Old w1) w1 _ s).at_ hb2) (hr2.mono fun b hb=>hb.2) Hx.out.1 Hx.out.2)
 rw[Hv.out] at HU
 have Hb:=hide (Hr.out.2.trans (hb2.mono Hr.out.2.size))
 clear hr2 hb2 hg Hr HT2 Hx
 go_wp2_with fail
 refine HU.out.mono ?_
 rintro e w3 ⟨rfl,hb3⟩
 have Hb3:=hide (Hb.out.trans (hb3.mono Hb.out.size))
 clear hb3 HU
 go_wp2
 go_ret
 exact⟨rfl,Hb3.out⟩
structure LVal (N K:Nat) (W:World) (l:List (List REl)) (A:Option Addr) (n c:Nat):Prop where
 at1:PathsAt (Old W) W l A c
 good:GoodL N K l
 len:l.length=n
theorem LVal.on {N K:Nat}{w W:World}{l:List (List REl)}{A:Option Addr}{n c:Nat}(h:LVal N K w l A n c) (hb:Below w.heap.size w W):LVal N K W l A n c:=
 ⟨h.at1.at_ hb,h.good,h.len⟩
def GivesL (N K:Nat) (rs:List (List REl)) (w:World) (en:Ending) (w':World):Prop:=∃A n c,en = .returned (.slice A n c)∧LVal N K w' rs A n c∧Below w.heap.size w w'
theorem GivesL.of_paths {N K:Nat}{rs:List (List REl)}{w:World}{en:Ending}{w':World}(hg:GoodL N K rs) (h:GivesPaths rs w en w'):GivesL N K rs w en w':=by
 obtain⟨A,c,e,h1,h2⟩:=GivesP.of_paths h
 exact⟨A,_,c,e,⟨h1,hg,rfl⟩,h2⟩
section
variable {N K J:Nat}{w:World}{l m:List (List REl)}{A B:Option Addr}{n k c d:Nat}
theorem lv_un (hN:0<N∧N*168≤R47) (h:LVal N K w l A n c) (h':LVal N J w m B k d) (hK:K+J≤N38) :
  Calls Tryz.prog 30 #[.slice A n c,.slice B k d] w (GivesL N (K+J) (ap2 .un N l m) w):=by
 obtain⟨h1,g1,rfl⟩:=h
 obtain⟨h2,g2,rfl⟩:=h'
 have e1:=g1.le
 have e2:=g2.le
 exact(implSetUnion_calls h1 h2 g1.ok g2.ok (by omega) g1.ht g2.ht hN.2).mono fun e w' hp=>GivesL.of_paths (ap2_good hN.1 g1 g2) hp
theorem lv_eq (h:LVal N K w l A n c) (h':LVal N J w m B k d) (hK:K≤N38) (hJ:J≤N38) (he:eqS N (setP (pels l)) (setP (pels m))=true) :
  Calls Tryz.prog 50 #[.slice A n c,.slice B k d] w (EqPost true w):=by
 obtain⟨h1,g1,rfl⟩:=h
 obtain⟨h2,g2,rfl⟩:=h'
 have e1:=g1.le
 have e2:=g2.le
 have hc:=implSetEqual_calls h1 h2 g1.ok g2.ok (by omega) (by omega) g1.ht g2.ht
 rwa [he] at hc
end
end Go.Proofs.YtbicoknghdgahaaGreat
