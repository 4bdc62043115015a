import Derived.Test.YtbicoknghdgahaaGreatKJ04
import Derived.Test.YtbicoknghdgahaaGreatRA01
set_option linter.unusedVariables false
set_option linter.unusedSimpArgs false
namespace Go.Proofs.YtbicoknghdgahaaGreat
open Go.RowKit
attribute [local go_sem] run_store_float
def NEInv (w:World) (ks:List (E × St)) (s:Value) (W:World):Prop:=∃k:Nat,s = .int .i64 (k:Int)∧k≤ks.length∧(∀x ∈ ks.take k,x.2.emp=true)∧Below w.heap.size w W
set_option maxRecDepth 100000 in
set_option maxHeartbeats 4000000 in
theorem nmEmpty_calls {ks:List (E × St)} (IH:∀k ∈ ks,∀{W:World} {gk:Nat},SetR (Old W) W gk k.2→Calls Tryz.prog 200 #[.pointer (some ⟨gk,0,none⟩)] W (EqPost k.2.emp W))
  {w:World} {g:Nat} {KA:Option Addr} {kc:Nat} {ys:List Value} (m0:w.cell? ⟨g,1,none⟩=some (.slice KA ks.length kc)) (hg:g<w.heap.size) (h47:ks.length*40≤R47) (hr:Row (Old w) w 5 KA ks.length ys) (hx:Cells 5 (KQ (Old w) w) ks ys) :
  Calls Tryz.prog 223 #[.pointer (some ⟨g,1,none⟩)] w (EqPost (St.emp.empK ks) w):=by
 have h47':ks.length*40≤140737488351232:=h47
 have H7:=hide (And.intro hr (And.intro hx (And.intro m0 hg)))
 have Hih:=hide IH
 obtain⟨r,hrr⟩:∃r,St.emp.empK ks=r:=⟨_,rfl⟩
 rw[hrr]
 have Hr:=hide hrr
 clear hr hx hrr IH h47
 go_enter Tryz.func223,Tryz.ntmps223
 go_wp2_with fail
 clear m0
 go_loopw [10] (fun s W=>NEInv w ks s W) (fun s _=>ks.length-(intOf s).toNat)
 case atStart=>exact⟨0,rfl,Nat.zero_le _,by simp,Below.refl _ _⟩
 case round=>
  obtain⟨k,rfl,hk,hall,hb⟩:=hrel
  by_cases hlt:k<ks.length
  ·have hki0:(0:Int)≤(k:Int):=Int.natCast_nonneg _
   have hki1:(k:Int)<(ks.length:Int):=by omega
   have hx:=H7.out.2.1.at_ hlt
   have hmem:=List.getElem_mem hlt
   have hsn:ks.take (k+1)=ks.take k++[ks[k]]:=List.take_succ_eq_append_getElem hlt
   generalize ks[k]=fx at *
   generalize hcs:(ys.drop (k*5)).take 5=fcs at hx
   obtain⟨p0,p1,p2,p3,gk,rfl,hpe,hset⟩:=hx.form
   obtain⟨rb,ro,rfl,hF,hc⟩:=rown_at H7.out.1 hlt hcs
   have ec:=(bcell hb).1
   have q0:=(ec _ _ hF).trans (hc 0 _ rfl)
   have q1:=(ec _ _ hF).trans (hc 1 _ rfl)
   have q2:=(ec _ _ hF).trans (hc 2 _ rfl)
   have q3:=(ec _ _ hF).trans (hc 3 _ rfl)
   have q4:=(ec _ _ hF).trans (hc 4 _ rfl)
   rw[Nat.add_zero] at q0
   have hrb:rb<w.heap.size:=hF
   have HE:=hide fun(W:World) (hb:Below w.heap.size w W)=>Hih.out fx hmem (hset.at_ hb)
   have Hq:=hide (And.intro hall (And.intro hb (And.intro hsn hmem)))
   have hwe:w.heap.size≤wr.heap.size:=hb.size
   clear hall hb hsn hmem hx hset hpe hcs hc ec hF
   obtain⟨wo,hwo⟩:∃W,W=wr:=⟨_,rfl⟩
   subst hwo
   obtain⟨v,hv⟩:∃v,fx.2.emp=v:=⟨_,rfl⟩
   rw[hv] at HE
   have Hv:=hide hv
   clear hv
   go_upto_region 4 with fail
   have hbA:Below wo.heap.size wo (wo.alloc (.cells #[.pointer p0,.pointer p1,.pointer p2,.pointer p3,.pointer (some ⟨gk,0,none⟩)] 214)):=(Below.refl _ _).alloc (Nat.le_refl _) _
   have hX:=Bk.new wo 214 #[.pointer p0,.pointer p1,.pointer p2,.pointer p3,.pointer (some ⟨gk,0,none⟩)]
   clear q0 q1 q2 q3 q4
   generalize hw1:World.alloc wo _=w1 at hbA hX ⊢
   have x4:=hX.cell 4
   simp at x4
   have H1:=hide (Hq.out.2.1.trans (hbA.mono hwe))
   clear hw1 hbA hX
   go_wp2_with fail
   refine(HE.out w1 H1.out).mono ?_
   rintro en w2 ⟨rfl,hb2⟩
   have H2:=hide (H1.out.trans (hb2.mono H1.out.size))
   clear hb2 HE H1 x4
   cases v
   ·have e1:r=false:=by
     rw[←Hr.out]
     cases he:St.emp.empK ks
     ·rfl
     ·have:=empK_iff.1 he fx Hq.out.2.2.2
      rw[Hv.out] at this
      cases this
    subst e1
    go_wp2
    go_ret
    exact⟨rfl,H2.out⟩
   have Hfin:=hide (And.intro (show ∀x ∈ ks.take (k+1),x.2.emp=true from by
    rw[Hq.out.2.2.1]
    intro x hx
    rcases List.mem_append.1 hx with hx | hx
    ·exact Hq.out.1 x hx
    ·rw[List.mem_singleton.1 hx];exact Hv.out) H2.out)
   clear Hq H2
   go_wp2_with fail
   exact⟨⟨k+1,by go_num,by omega,Hfin.out.1,Hfin.out.2⟩,by simp[intOf];omega⟩
  ·have hke:k=ks.length:=by omega
   subst hke
   have hki1:¬((ks.length:Nat):Int)<(ks.length:Int):=by omega
   rw[List.take_of_length_le (Nat.le_refl _)] at hall
   have e1:r=true:=by rw[←Hr.out];exact empK_iff.2 hall
   subst e1
   have H3:=hide hb
   clear hall hb Hr
   go_wp2
   go_ret
   exact⟨rfl,H3.out⟩
theorem emp_parts {m:List E} {ks:List (E × St)}:(St.mk m ks).emp=(m.isEmpty&&St.emp.empK ks):=by rw[St.emp]
set_option maxRecDepth 100000 in
set_option maxHeartbeats 4000000 in
theorem setEmptyAll:∀(s:St) {w:World} {g:Nat},SetR (Old w) w g s→Calls Tryz.prog 200 #[.pointer (some ⟨g,0,none⟩)] w (EqPost s.emp w)
 | .mk m ks,w,g,h=>by
  have IH:∀k ∈ ks,∀{W:World} {gk:Nat},SetR (Old W) W gk k.2→Calls Tryz.prog 200 #[.pointer (some ⟨gk,0,none⟩)] W (EqPost k.2.emp W):=
   fun k hk _ _ hs=>have hlt:SizeOf.sizeOf k.2<SizeOf.sizeOf (St.mk m ks):=kid_lt (s:=.mk m ks) hk;setEmptyAll k.2 hs
  obtain⟨MA,KA,mc,kc,xs,ys,a1,a2,a3,a4,a5,a6,a7,a8,a9,a10,a11,a12⟩:=h.parts
  simp only[St.mem,St.kids] at a2 a3 a4 a5 a7 a9 a10 a11 a12
  have ga0:=a2.cell 0
  have ga1:=a2.cell 1
  simp at ga0 ga1
  have hg:g<w.heap.size:=a1
  have HS:=hide (esSizeC_calls (w:=w) (g:=g) (o:=0) ga0)
  have HN:=hide (nmEmpty_calls (w:=w) IH ga1 hg a4 a10 a12)
  rw[emp_parts]
  obtain⟨v,hv⟩:∃v,St.emp.empK ks=v:=⟨_,rfl⟩
  rw[hv] at HN ⊢
  have hm47:m.length*32≤140737488351232:=a3
  clear h IH a1 a2 a3 a4 a5 a6 a7 a8 a9 a10 a11 a12 ga0 ga1 hv
  by_cases hm:m=[]
  ·subst hm
   show Calls _ _ _ _ (EqPost v w)
   have HS':=HS
   have HN':=HN
   rw[show([]:List E).length=0 from rfl] at HS'
   clear HS HN
   go_enter Tryz.func200,Tryz.ntmps200
   go_wp2_with fail
   refine HS'.out.mono ?_
   rintro en w1 ⟨rfl,rfl⟩
   rw[show((0:Nat):Int)=0 from rfl]
   go_wp2_with fail
   refine HN'.out.mono ?_
   rintro en w2 ⟨rfl,hb2⟩
   have H2:=hide hb2
   clear hb2 HN' HS'
   go_wp2
   go_ret
   exact⟨rfl,H2.out⟩
  ·have e1:(m.isEmpty&&v)=false:=by cases m with | nil=>exact absurd rfl hm | cons a m=>rfl
   rw[e1]
   have hm0:0<m.length:=by cases m with | nil=>exact absurd rfl hm | cons a m=>simp
   have hmi:(0:Int)<(m.length:Int):=by omega
   have HS':=HS
   clear HS HN hm e1
   generalize m.length=n at *
   go_enter Tryz.func200,Tryz.ntmps200
   go_wp2_with fail
   refine HS'.out.mono ?_
   rintro en w1 ⟨rfl,rfl⟩
   clear HS'
   go_wp2
   go_ret
   exact⟨rfl,Below.refl _ _⟩
termination_by s=>s
decreasing_by assumption
theorem setEmpty_calls {s:St} {w:World} {g:Nat} (h:SetR (Old w) w g s):Calls Tryz.prog 200 #[.pointer (some ⟨g,0,none⟩)] w (EqPost s.emp w):=setEmptyAll s h
end Go.Proofs.YtbicoknghdgahaaGreat
namespace Go.Proofs.YtbicoknghdgahaaGreat
open Go.RowKit
attribute [local go_sem] run_store_float
set_option maxRecDepth 100000 in
theorem hasCmp_calls {e1 e2:E} {cs1 cs2:List Value} {w:World} (h1:PEAt (Old w) w e1 cs1) (h2:PEAt (Old w) w e2 cs2):Calls Tryz.prog 229 #[.agg cs1.toArray,.agg cs2.toArray] w (CmpPost (E.cmp e1 e2) w):=by
 obtain⟨a0,a1,a2,a3,rfl⟩:=h1.form
 obtain⟨b0,b1,b2,b3,rfl⟩:=h2.form
 have hb:Below w.heap.size w ((w.alloc (.cells #[.pointer a0,.pointer a1,.pointer a2,.pointer a3] 109)).alloc (.cells #[.pointer b0,.pointer b1,.pointer b2,.pointer b3] 109)):=((Below.refl _ _).alloc (Nat.le_refl _) _).alloc (by simp) _
 have H:=hide (peCompare_calls (h1.at_ hb) (h2.at_ hb))
 have Hb:=hide hb
 clear h1 h2 hb
 go_enter Tryz.func229,Tryz.ntmps229
 go_wp2_with fail
 refine H.out.mono ?_
 rintro e w1 ⟨rfl,hb1⟩
 have Hb1:=hide (Hb.out.trans (hb1.mono Hb.out.size))
 clear hb1
 go_wp2
 go_ret
 exact⟨rfl,Hb1.out⟩
def EHS (a h:Nat) (u c0 c1 c2 c3:Value) (W:World):Prop:=W.cell? ⟨a,0,none⟩=some u∧W.cell? ⟨h,0,none⟩=some c0∧W.cell? ⟨h,1,none⟩=some c1∧W.cell? ⟨h,2,none⟩=some c2∧W.cell? ⟨h,3,none⟩=some c3
set_option maxRecDepth 100000 in
set_option maxHeartbeats 4000000 in
theorem esHas_calls {w:World} {g:Nat} {m:List E} {e:E} {p0 p1 p2 p3:Option Addr} {MA:Option Addr} {mc:Nat} {xs:List Value} (hgl:g<w.heap.size) (m0:w.cell? ⟨g,0,none⟩=some (.slice MA m.length mc)) (h47:m.length*32≤R47) (hrow:Row (Old w) w 4 MA m.length xs)
  (hx:Cells 4 (PEAt (Old w) w) m xs) (hok:POk m) (hs:SortC E.cmp m) (he:e.Ok) (hpe:PEAt (Old w) w e [.pointer p0,.pointer p1,.pointer p2,.pointer p3]) :
  Calls Tryz.prog 205 #[.pointer (some ⟨g,0,none⟩),.agg #[.pointer p0,.pointer p1,.pointer p2,.pointer p3]] w (EqPost (hasC E.cmp e m) w):=by
 have hbx:Below w.heap.size w (w.alloc (.cells #[.pointer p0,.pointer p1,.pointer p2,.pointer p3] 109)):=(Below.refl _ _).alloc (Nat.le_refl _) _
 have hbox:=Bk.new w 109 #[.pointer p0,.pointer p1,.pointer p2,.pointer p3]
 obtain⟨w1,hw1⟩:∃w1,w.alloc (.cells #[.pointer p0,.pointer p1,.pointer p2,.pointer p3] 109)=w1:=⟨_,rfl⟩
 rw[hw1] at hbx hbox
 have hsz1:w1.heap.size=w.heap.size+1:=by rw[←hw1,World.size_alloc]
 have hbd:Below w.heap.size w w1.drew:=below_drew hbx
 have kF:Keeps (Old w) w w1.drew:=Keeps.below hbd fun _ h=>h
 have up:∀b,Old w b→Old w1.drew b:=fun b hb=>by have hb:b<w.heap.size:=hb;show b<w1.heap.size;omega
 have hsearch:=searchE_calls (f:=229) (fun args W=>by kernel_rfl) (Q:=fun W a cs=>PEAt (Old W) W a cs) (l:=m) (A:=MA) (c:=mc) (w:=w1.drew) (xs:=xs) (e:=e) (t0:=.pointer p0) (t1:=.pointer p1) (t2:=.pointer p2) (t3:=.pointer p3)
  h47 ((hrow.keeps kF).mono up) (hx.mono fun _ _ h=>(h.keeps kF).mono up)
  (fun W a cs hb h=>h.at_ hb) (fun W a cs h=>by obtain⟨a,b,c,d,rfl⟩:=h.form;rfl) hok he hs
  (fun a cs W hb h=>hasCmp_calls h (((hpe.keeps kF).mono up).at_ hb))
 have Hs:=hide hsearch
 have H0:=hide hbx
 have s0:=((bcell hbx).1 g 0 hgl).trans m0
 have b0:=hbox.cell 0
 have b1:=hbox.cell 1
 have b2:=hbox.cell 2
 have b3:=hbox.cell 3
 simp at b0 b1 b2 b3
 clear hsearch hrow hbx hbox hbd kF up hpe m0 h47 hx hok hs he
 go_enter Tryz.func205,Tryz.ntmps205
 go_wp2_with fail
 try rw[hw1]
 obtain⟨S,hS⟩:∃S,EHS g w.heap.size (.slice MA m.length mc) (.pointer p0) (.pointer p1) (.pointer p2) (.pointer p3)=S:=⟨_,rfl⟩
 have hS0:S w1.drew:=by rw[←hS];exact⟨s0,b0,b1,b2,b3⟩
 refine wp_region_head 10 S (by rfl) (by kernel_rfl) ?_
 have hX:=hide (show ∀W:World,S W→EHS g w.heap.size (.slice MA m.length mc) (.pointer p0) (.pointer p1) (.pointer p2) (.pointer p3) W from fun W hSw=>by rw[←hS] at hSw;exact hSw)
 iterate 5
  refine HT.nx (v:=?_) rfl (by kernel_rfl) (fun _ _ _ h=>h) (Or.inl ⟨by rfl,?_⟩) ‹_› ?_
  rotate_left
  ·intro W hSw;obtain⟨m0,b0,b1,b2,b3⟩:=hX.out W hSw;go_simp;with_reducible rfl
  simp only[Act.put,zzA,zzZ,zzS]
 clear hX
 refine HT.one 5 rfl (by kernel_rfl) (by rfl) (fun K hK=>?_)
 go_simp
 refine Hs.out.mono ?_
 rintro en w2 ⟨rfl,hb2⟩
 have hb2':Below w1.heap.size w1 w2:=below_drew' hb2
 have ec:=(bcell hb2').1
 have hS1:S w2:=by rw[←hS];exact⟨(ec g 0 (by omega)).trans s0,(ec _ _ (by omega)).trans b0,(ec _ _ (by omega)).trans b1,(ec _ _ (by omega)).trans b2,(ec _ _ (by omega)).trans b3⟩
 have hbw:Below w.heap.size w w2:=H0.out.trans (hb2'.mono (by omega))
 obtain⟨hh,hhe⟩:∃hh,hasC E.cmp e m=hh:=⟨_,rfl⟩
 rw[hhe]
 go_simp
 refine hK.out _ _ hS1 ?_
 clear hK
 iterate 4
  refine HT.nx (v:=?_) rfl (by kernel_rfl) (fun _ _ _ h=>h) (Or.inl ⟨by rfl,?_⟩) ‹_› ?_
  rotate_left
  ·intro W hSw;go_simp;with_reducible rfl
  simp only[Act.put,zzA,zzZ,zzS]
 refine HT.done (by kernel_rfl) ?_
 have Hb:=hide hbw
 have Hhe:=hide hhe
 clear hb2 hb2' ec hS0 hS1 hbw Hs s0 b0 b1 b2 b3 hhe
 go_wp2
 go_ret
 exact⟨by rw[Hhe.out];rfl,Hb.out⟩
end Go.Proofs.YtbicoknghdgahaaGreat
namespace Go.Proofs.YtbicoknghdgahaaGreat
def recK (u:St→St→St) (q:List E) (m m':List (E × St)):List (E × St):=(mrg kcmp true false (SOp.less.kid u) m m').filter (fun k=>!hasC E.cmp k.1 q)
def recD:Nat→St→St→St
 | 0,_,_=>St.empty
 | n+1,s,t=>.mk (mrg E.cmp true false SOp.less.el s.mem t.mem) (recK (recD n) t.mem s.kids t.kids)
def Bl (t:St) (x:List E):Prop:=∃i,0<i∧t.Has (x.take i)
theorem bl_one {t:St} {e:E}:Bl t [e]↔t.Has [e]:=by
 constructor
 ·rintro⟨i,h0,hi⟩
  rwa [List.take_of_length_le (by simp;omega)] at hi
 ·exact fun h=>⟨1,by omega,h⟩
theorem bl_cons {t:St} (h:t.WF) {e:E} (he:e.Ok) {x:List E} (hx:x≠[]):Bl t (e::x)↔t.Has [e]∨∃c,findK e t.kids=some c∧Bl c x:=by
 constructor
 ·rintro⟨i,h0,hi⟩
  obtain⟨j,rfl⟩:∃j,i=j+1:=⟨i-1,by omega⟩
  rw[List.take_succ_cons] at hi
  cases j with
  | zero=>exact .inl hi
  | succ j=>
   have hne:x.take (j+1)≠[]:=by cases x with
    | nil=>exact absurd rfl hx
    | cons a x=>simp
   obtain⟨c,h1,h2⟩:=(has_cons h he hne).1 hi
   exact .inr ⟨c,h1,j+1,by omega,h2⟩
 ·rintro(h1 | ⟨c,h1,i,h0,h2⟩)
  ·exact⟨1,by omega,h1⟩
  ·have hne:x.take i≠[]:=by cases x with
    | nil=>exact absurd rfl hx
    | cons a x=>obtain⟨j,rfl⟩:∃j,i=j+1:=⟨i-1,by omega⟩;simp
   exact⟨i+1,by omega,by rw[List.take_succ_cons];exact(has_cons h he hne).2 ⟨c,h1,h2⟩⟩
theorem getC_filter {α:Type} {c:α→α→Int} {x:α} {pr:α→Bool} {v:Bool}:∀{l:List α},(∀a ∈ l,c a x=0→pr a=v)→getC c x (l.filter pr)=if v=true then getC c x l else none
 | [],_=>by cases v <;> rfl
 | a::l,h=>by
  have ih:=getC_filter (l:=l) fun b hb=>h b (by simp[hb])
  by_cases h0:c a x=0
  ·have ha:=h a (by simp) h0
   cases v
   ·rw[List.filter_cons,if_neg (by rw[ha];decide),ih];rfl
   ·rw[List.filter_cons,if_pos ha,getC,getC,if_pos h0,if_pos h0,if_pos rfl]
  ·rw[show getC c x (a::l)=getC c x l by rw[getC,if_neg h0],List.filter_cons]
   split
   ·rw[getC,if_neg h0,ih]
   ·exact ih
theorem hasC_same {q:List E} {a e:E} (hq:POk q) (hs:SortC E.cmp q) (ha:a.Ok) (he:e.Ok) (h:E.cmp a e=0):hasC E.cmp a q=hasC E.cmp e q:=by
 have h1:=hasC_iff E.ord_ (e:=a) ha hq hs
 have h2:=hasC_iff E.ord_ (e:=e) he hq hs
 have h3:HasC E.cmp q a↔HasC E.cmp q e:=⟨fun⟨b,hb,e1⟩=>⟨b,hb,E.ord_.eq_trans (hq b hb) ha he e1 h⟩,fun⟨b,hb,e1⟩=>⟨b,hb,E.ord_.eq_trans (hq b hb) he ha e1 (E.ord_.eq_turn ha he h)⟩⟩
 cases e1:hasC E.cmp a q <;> cases e2:hasC E.cmp e q
 ·rfl
 ·rw[e1,h3,←h2,e2] at h1;simp at h1
 ·rw[e2] at h2;rw[e1,h3] at h1;exact absurd (h2.2 (h1.1 rfl)) (by decide)
 ·rfl
theorem mrg_memL {α:Type} {c:α→α→Int} {f:α→α→Option α}:∀{l m:List α} {x:α},x ∈ mrg c true false f l m→x ∈ l∨∃a ∈ l,∃b ∈ m,f a b=some x
 | [],m,x,h=>by rw[mrg_nil_l] at h;simp at h
 | a::l,[],x,h=>by rw[mrg_nil_r] at h;exact .inl (by simpa using h)
 | a::l,b::m,x,h=>by
  rw[mrg_cons] at h
  split at h
  ·rw[if_pos rfl] at h
   rcases List.mem_cons.1 h with rfl | h
   ·exact .inl (by simp)
   ·rcases mrg_memL h with h | ⟨a',ha,b',hb,h⟩
    ·exact .inl (List.mem_cons_of_mem _ h)
    ·exact .inr ⟨a',List.mem_cons_of_mem _ ha,b',hb,h⟩
  ·split at h
   ·rw[if_neg (by decide)] at h
    rcases mrg_memL h with h | ⟨a',ha,b',hb,h⟩
    ·exact .inl h
    ·exact .inr ⟨a',ha,b',List.mem_cons_of_mem _ hb,h⟩
   ·rcases List.mem_append.1 h with h | h
    ·exact .inr ⟨a,by simp,b,by simp,by simpa using h⟩
    ·rcases mrg_memL h with h | ⟨a',ha,b',hb,h⟩
     ·exact .inl (List.mem_cons_of_mem _ h)
     ·exact .inr ⟨a',List.mem_cons_of_mem _ ha,b',List.mem_cons_of_mem _ hb,h⟩
termination_by l m=>l.length+m.length
theorem recK_mem {u:St→St→St} {q:List E} {m m':List (E × St)} {k:E × St} (h:k ∈ recK u q m m'):k ∈ m∨∃a ∈ m,∃b ∈ m',k=(a.1,u a.2 b.2):=by
 rcases mrg_memL (List.mem_filter.1 h).1 with h1 | ⟨a,ha,b,hb,e⟩
 ·exact .inl h1
 ·exact .inr ⟨a,ha,b,hb,kid_eq e⟩
theorem recK_length {u:St→St→St} {q:List E} {m m':List (E × St)}:(recK u q m m').length≤m.length+m'.length:=by
 have h1:=mrg_length (c:=kcmp) (kl:=true) (kr:=false) (f:=SOp.less.kid u) (l:=m) (m:=m')
 have h2:=List.length_filter_le (fun k:E × St=>!hasC E.cmp k.1 q) (mrg kcmp true false (SOp.less.kid u) m m')
 unfold recK
 omega
theorem pathsK_filter {pr:E × St→Bool}:∀(l:List (E × St)),(St.pathsK (l.filter pr)).length≤(St.pathsK l).length
 | []=>Nat.le_refl _
 | k::l=>by
  have ih:=pathsK_filter (pr:=pr) l
  rw[List.filter_cons]
  split
  ·rw[pathsK_cons,pathsK_cons];omega
  ·rw[pathsK_cons];omega
theorem recD_mk {n:Nat} {m m':List E} {ks ks':List (E × St)}:recD (n+1) (.mk m ks) (.mk m' ks') = .mk (mrg E.cmp true false SOp.less.el m m') (recK (recD n) m' ks ks'):=rfl
theorem recD_count:∀{n:Nat} {s t:St},(recD n s t).paths.length≤s.paths.length+t.paths.length
 | 0,_,_=>by simp[recD,St.empty,St.paths,St.pathsK]
 | n+1,.mk m ks,.mk m' ks'=>by
  have h1:=mrg_length (c:=E.cmp) (kl:=true) (kr:=false) (f:=SOp.less.el) (l:=m) (m:=m')
  have h2:=mrgK_count (o:=SOp.less) (kl:=true) (kr:=false) (u:=recD n) (l:=ks) (m:=ks') fun a _ b _=>recD_count
  have h3:=pathsK_filter (pr:=fun k:E × St=>!hasC E.cmp k.1 m') (mrg kcmp true false (SOp.less.kid (recD n)) ks ks')
  rw[recD_mk,paths_mk,paths_mk,paths_mk]
  unfold recK
  simp only[List.length_append,List.length_map]
  omega
theorem recD_ht:∀{n h:Nat} {s t:St},s.Ht h→(recD n s t).Ht h
 | 0,_,_,_,hs=>by
  cases hs with
  | mk hs=>exact St.Ht.empty_ _
 | n+1,_,.mk m ks,.mk m' ks',hs=>by
  cases hs with
  | mk h3=>
  rw[recD_mk]
  refine .mk fun k hk=>?_
  rcases recK_mem hk with h | ⟨x,hx,y,hy,rfl⟩
  ·exact h3 k h
  ·exact recD_ht (h3 x hx)
theorem recD_all {P:E→Prop}:∀{n:Nat} {s t:St},s.All P→(recD n s t).All P
 | 0,_,_,_=>St.All.empty_ P
 | n+1,.mk m ks,.mk m' ks',hs=>by
  cases hs with
  | mk h1 h2 h3=>
  rw[recD_mk]
  refine .mk (fun e he=>?_) (fun k hk=>?_) fun k hk=>?_
  ·rcases mrg_memL he with h | ⟨x,hx,y,hy,e⟩
   ·exact h1 e h
   ·simp[SOp.el,SOp.less] at e
  ·rcases recK_mem hk with h | ⟨x,hx,y,hy,rfl⟩
   ·exact h2 k h
   ·exact h2 x hx
  ·rcases recK_mem hk with h | ⟨x,hx,y,hy,rfl⟩
   ·exact h3 k h
   ·exact recD_all (h3 x hx)
theorem recD_wf:∀{n:Nat} {s t:St},s.WF→t.WF→(recD n s t).WF
 | 0,_,_,_,_=>.empty_
 | n+1,.mk m ks,.mk m' ks',hs,ht=>by
  cases hs with
  | mk h1 h2 h3 h4 h5=>
  cases ht with
  | mk i1 i2 i3 i4 i5=>
  obtain⟨a1,a2,-⟩:=mrg_sorted E.ord_ (kl:=true) (kr:=false) (f:=SOp.less.el) (fun a b x ha hb h e=>el_ok ha hb h e) h1 i1 h2 i2
  obtain⟨b1,b2,-⟩:=mrg_sorted kcmp_ord (kl:=true) (kr:=false) (f:=SOp.less.kid (recD n)) (fun a b x ha hb h e=>kid_ok ha hb h e) h3 i3 h4 i4
  rw[recD_mk]
  refine .mk a2 a1 (fun k hk=>b2 k (List.mem_filter.1 hk).1) (b1.sublist List.filter_sublist) fun k hk=>?_
  rcases recK_mem hk with h | ⟨a,ha,b,hb,rfl⟩
  ·exact h5 k h
  ·exact recD_wf (h5 a ha) (i5 b hb)
theorem has_recD:∀{n:Nat} {s t:St},s.WF→t.WF→(∀p ∈ s.paths,p.length≤n)→∀{x:List E},POk x→((recD n s t).Has x↔s.Has x∧¬Bl t x)
 | 0,s,t,hs,ht,h1,x,hx=>by
  constructor
  ·exact fun h=>absurd h (has_empty x)
  ·rintro⟨⟨p,hp,-⟩,-⟩
   have:=h1 p hp
   exact absurd (List.eq_nil_of_length_eq_zero (by omega)) (paths_ok hs p hp).2
 | n+1,s,t,hs,ht,h1,[],hx=>⟨fun h=>absurd h (has_nil (recD_wf hs ht)),fun h=>absurd h.1 (has_nil hs)⟩
 | n+1,s,t,hs,ht,l1,[e],hx=>by
  have hw:=recD_wf (n:=n+1) hs ht
  rw[bl_one,has_one hw,has_one hs,has_one ht]
  have he:=hx e (by simp)
  cases hs with
  | @mk m ks h1 h2 h3 h4 h5=>
  cases ht with
  | @mk m' ks' i1 i2 i3 i4 i5=>
  show HasC E.cmp (mrg E.cmp true false SOp.less.el m m') e↔HasC E.cmp m e∧¬HasC E.cmp m' e
  rw[hasC_get,hasC_get,hasC_get,getC_mrg E.ord_ (kl:=true) (kr:=false) (f:=SOp.less.el) (fun a b x ha hb h e=>el_ok ha hb h e) he h1 i1 h2 i2]
  cases getC E.cmp e m <;> cases getC E.cmp e m' <;> simp[SOp.el,SOp.less]
 | n+1,s,t,hs,ht,l1,e::y::x,hx=>by
  have hw:=recD_wf (n:=n+1) hs ht
  have he:=hx e (by simp)
  have hx':POk (y::x):=fun z hz=>hx z (by simp[hz])
  rw[has_cons hw he (by simp),has_cons hs he (by simp),bl_cons ht he (by simp),has_one ht]
  cases hs with
  | @mk m ks h1 h2 h3 h4 h5=>
  cases ht with
  | @mk m' ks' i1 i2 i3 i4 i5=>
  show(∃u,findK e (recK (recD n) m' ks ks')=some u∧u.Has (y::x))↔(∃u,findK e ks=some u∧u.Has (y::x))∧¬(HasC E.cmp m' e∨∃c,findK e ks'=some c∧Bl c (y::x))
  have hg:=getC_mrg kcmp_ord (kl:=true) (kr:=false) (f:=SOp.less.kid (recD n)) (fun a b x ha hb h e=>kid_ok ha hb h e) (x:=(e,St.empty)) he h3 i3 h4 i4
  obtain⟨-,b2,-⟩:=mrg_sorted kcmp_ord (kl:=true) (kr:=false) (f:=SOp.less.kid (recD n)) (fun a b x ha hb h e=>kid_ok ha hb h e) h3 i3 h4 i4
  have hf:=getC_filter (c:=kcmp) (x:=(e,St.empty)) (pr:=fun k=>!hasC E.cmp k.1 m') (v:=!hasC E.cmp e m') (l:=mrg kcmp true false (SOp.less.kid (recD n)) ks ks') fun a ha h0=>by
   show(!hasC E.cmp a.1 m')=_
   rw[hasC_same i1 i2 (b2 a ha) he h0]
  rw[findK_get (s:=St.empty),findK_get (s:=St.empty),findK_get (s:=St.empty)]
  unfold recK
  rw[hf,hg,←hasC_iff E.ord_ he i1 i2]
  cases hasC E.cmp e m'
  ·cases ga:getC kcmp (e,St.empty) ks with
   | none=>cases gb:getC kcmp (e,St.empty) ks' <;> simp
   | some a=>
    cases gb:getC kcmp (e,St.empty) ks' with
    | none=>simp
    | some b=>
     have ha:=getC_mem ga
     have hb:=getC_mem gb
     have ih:=has_recD (n:=n) (s:=a.2) (t:=b.2) (h5 a ha.1) (i5 b hb.1)
      (fun p hp=>by have:=l1 (a.1::p) (paths_mem.2 (.inr ⟨a,ha.1,p,hp,rfl⟩));simpa using this) hx'
     have hk:(∃u,Option.map Prod.snd (SOp.less.kid (recD n) a b)=some u∧u.Has (y::x))↔(recD n a.2 b.2).Has (y::x):=by
      unfold SOp.kid
      split
      ·rename_i h
       exact⟨fun⟨u,h1,_⟩=>(by cases h1),fun h1=>absurd h1 (has_emp h.2 _)⟩
      ·simp
     simpa using hk.trans ih
  ·simp
end Go.Proofs.YtbicoknghdgahaaGreat
