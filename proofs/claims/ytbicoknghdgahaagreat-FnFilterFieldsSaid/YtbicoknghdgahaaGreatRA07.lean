import Derived.Test.YtbicoknghdgahaaGreatRA06
set_option linter.unusedVariables false
set_option linter.unusedSimpArgs false
namespace Go.Proofs.YtbicoknghdgahaaGreat
open Go.RowKit
attribute [local go_sem] run_store_float
theorem filt_snoc {m:List E} {P:E→Bool} {k:Nat} (hk:k<m.length) (hs:SortC E.cmp m) (hp:P m[k]=true):(m.take (k+1)).filter P=insC E.cmp m[k] ((m.take k).filter P):=by
 rw[filter_take hk,if_pos hp,insC_last fun a ha=>?_]
 have ha:=(List.mem_filter.1 ha).1
 obtain⟨i,hi,rfl⟩:=List.getElem_of_mem ha
 rw[List.length_take] at hi
 rw[List.getElem_take]
 exact List.pairwise_iff_getElem.1 hs i k (by omega) hk (by omega)
set_option maxRecDepth 100000 in
set_option maxHeartbeats 16000000 in
theorem filtS_calls:∀(s:St) {F:Nat→Prop} {w:World} {g h:Nat} {x:Mt},(∀b,F b→b<w.heap.size)→SetR F w g s→MatR F w h x→s.WF→s.paths.length≤N38 →
  Calls Tryz.prog 105 #[.pointer (some ⟨g,0,none⟩),.pointer (some ⟨h,0,none⟩)] w (GivesF F (filtS s x) w)
 | .mk m ks,F,w,g,h,x,hF,hs,hm,hwf,hN=>by
  have hpl:(St.mk m ks).paths.length=m.length+(St.pathsK ks).length:=by rw[St.paths,List.length_append,List.length_map]
  have hkN:∀k ∈ ks,k.2.paths.length≤N38:=fun k hk=>by have:=pathsK_kid hk;omega
  have hkW:∀k ∈ ks,k.2.WF:=fun k hk=>by
   cases hwf with
   | mk h1 h2 h3 h4 h5=>exact h5 k hk
  have IH:∀k ∈ ks,∀{F:Nat→Prop} {W:World} {ga gx:Nat} {y:Mt},(∀b,F b→b<W.heap.size)→SetR F W ga k.2→MatR F W gx y→Calls Tryz.prog 105 #[.pointer (some ⟨ga,0,none⟩),.pointer (some ⟨gx,0,none⟩)] W (GivesF F (filtS k.2 y) W):=
   fun k hk _ _ _ _ _ hF' hs' hm'=>have hlt:SizeOf.sizeOf k.2<SizeOf.sizeOf (St.mk m ks):=kid_lt (s:=.mk m ks) hk;filtS_calls k.2 hF' hs' hm' (hkW k hk) (hkN k hk)
  have hmo:POk m∧SortC E.cmp m:=by
   cases hwf with
   | mk h1 h2 h3 h4 h5=>exact⟨h1,h2⟩
  obtain⟨XA,xc,zs,b1,b2,b3,b4,b5,b6,b7⟩:=hm.parts
  have hh:h<w.heap.size:=hF _ b1
  obtain⟨ba,hba⟩:∃ba,x.all=ba:=⟨_,rfl⟩
  rw[hba] at b2
  cases ba
  ·have Hxa:=hide hba
   obtain⟨MA,KA,mc,kc,xs,ys,a1,a2,a3,a4,a5,a6,a7,a8,a9,a10,a11,a12⟩:=hs.parts
   simp only[St.mem,St.kids] at a2 a3 a4 a5 a7 a9 a10 a11 a12
   have hg:g<w.heap.size:=hF _ a1
   obtain⟨n,hn⟩:∃n,m.length=n:=⟨_,rfl⟩
   obtain⟨xn,hxn⟩:∃xn,x.ms.length=xn:=⟨_,rfl⟩
   rw[hn] at a2 a9
   rw[hxn] at b2 b6
   have ga0:=a2.cell 0
   have ga1:=a2.cell 1
   have c0:=b2.cell 0
   have c1:=b2.cell 1
   simp at ga0 ga1 c0 c1
   have hm47:n*32≤140737488351232:=by rw[←hn];exact a3
   have hx47:xn*8≤140737488351232:=by rw[←hxn];exact b3
   have H7:=hide (And.intro a9 (And.intro a11 (And.intro ga0 c1)))
   have HM:=hide (And.intro b6 (And.intro b7 (And.intro b3 hxn)))
   have HF:=hide hF
   have Hn:=hide hn
   have Hmo:=hide hmo
   have HNM:=hide fun(W:World) (hb:Below w.heap.size w W)=>nmFilter_calls IH (F:=F) (w:=W) (g:=g) (h:=h) (x:=x) hba (fun b hb'=>Nat.lt_of_lt_of_le (hF b hb') hb.size) (Nat.lt_of_lt_of_le hg hb.size) (((bcell hb).1 _ _ hg).trans ga1) a4 (a10.keeps (Keeps.below hb hF)) (a12.mono fun _ _ h=>KQ.keeps h (Keeps.below hb hF)) hkN (hm.keeps (Keeps.below hb hF))
   have hb0:Below w.heap.size w (w.alloc (.cells #[.slice none 0 0] 124)):=(Below.refl _ _).alloc (Nat.le_refl _) _
   have hes0:ESet F (w.alloc (.cells #[.slice none 0 0] 124)) w.heap.size ((m.take 0).filter fun e=>(hitM e x.ms).isSome) (.slice none 0 0) []:=
    ⟨Bk.new _ _ _,by rw[List.take_zero];exact World.ownsRow_nil _ _ _ _,by rw[List.take_zero];exact Cells.nil_,by simp[Value.ownBlock]⟩
   have H0:=hide (And.intro hb0 hes0)
   have hk47:=hide a4
   clear hs hm hwf hN hpl hkN hkW IH hmo b1 b2 b3 b4 b5 b6 b7 a1 a2 a3 a4 a5 a6 a7 a8 a9 a10 a11 a12 ga1 hb0 hes0 hn hxn hF hba
   go_enter Tryz.func105,Tryz.ntmps105
   go_wp2_with fail
   go_loopw [22] (fun s W=>SFInv F w m x s W) (fun s _=>n-(intOf s).toNat)
   case atStart=>exact⟨0,_,[],rfl,Nat.zero_le _,H0.out.2,by simp[Value.ownBlock],H0.out.1⟩
   case round=>
    clear ga0 c0 c1 H0
    obtain⟨k,sv,us,rfl,hk,hes,hsv,hb⟩:=hrel
    rw[Hn.out] at hk
    have hki0:(0:Int)≤(k:Int):=Int.natCast_nonneg _
    by_cases hlt:k<n
    ·have hki1:(k:Int)<(n:Int):=by omega
     have hlt':k<m.length:=by rw[Hn.out];exact hlt
     have hkx:=H7.out.2.1.at_ hlt'
     have hsn:(hitM m[k] x.ms).isSome=true→(m.take (k+1)).filter (fun e=>(hitM e x.ms).isSome)=insC E.cmp m[k] ((m.take k).filter fun e=>(hitM e x.ms).isSome):=fun hp=>filt_snoc (P:=fun e=>(hitM e x.ms).isSome) hlt' Hmo.out.2 hp
     have hsn2:(hitM m[k] x.ms).isSome=false→(m.take (k+1)).filter (fun e=>(hitM e x.ms).isSome)=(m.take k).filter fun e=>(hitM e x.ms).isSome:=fun hp=>by rw[filter_take hlt'];simp only[hp];simp
     have heo:(m[k]).Ok:=Hmo.out.1 _ (List.getElem_mem _)
     generalize m[k]=e at *
     generalize hcs:(xs.drop (k*4)).take 4=fcs at hkx
     obtain⟨p0,p1,p2,p3,rfl⟩:=hkx.form
     obtain⟨rb,ro,rfl,hF1,hc⟩:=rown_at H7.out.1 hlt hcs
     have ec:=(bcell hb).1
     have q0:=(ec _ _ (HF.out _ hF1)).trans (hc 0 _ rfl)
     have q1:=(ec _ _ (HF.out _ hF1)).trans (hc 1 _ rfl)
     have q2:=(ec _ _ (HF.out _ hF1)).trans (hc 2 _ rfl)
     have q3:=(ec _ _ (HF.out _ hF1)).trans (hc 3 _ rfl)
     rw[Nat.add_zero] at q0
     have hrb:rb<w.heap.size:=HF.out _ hF1
     have hwe:w.heap.size≤wr.heap.size:=hb.size
     have HXE:=hide hkx
     obtain⟨L,hL⟩:∃L,((m.take k).filter fun e=>(hitM e x.ms).isSome)=L:=⟨_,rfl⟩
     have hLo:POk L∧SortC E.cmp L∧L.length≤k:=by
      rw[←hL]
      refine⟨fun y hy=>Hmo.out.1 y (List.mem_of_mem_take (List.mem_filter.1 hy).1),?_,?_⟩
      ·exact List.Pairwise.sublist (List.filter_sublist.trans (List.take_sublist _ _)) Hmo.out.2
      ·have h1:=List.length_filter_le (fun e=>(hitM e x.ms).isSome) (m.take k)
       rw[List.length_take,Hn.out] at h1
       omega
     rw[hL] at hes hsn hsn2
     have hgl:=hes.bk.lt
     have Hs:=hide (And.intro hes (And.intro hsv (And.intro hb (And.intro hsn (And.intro hsn2 (And.intro heo hLo))))))
     clear hes hsv hb hsn hsn2 heo hkx hcs hc ec hF1 hL hLo
     obtain⟨wp,hwp⟩:∃W,W=wr:=⟨_,rfl⟩
     subst hwp
     go_upto_region 7 with fail
     have hbA:Below wp.heap.size wp (wp.alloc (.cells #[.pointer p0,.pointer p1,.pointer p2,.pointer p3] 109)):=(Below.refl _ _).alloc (Nat.le_refl _) _
     have hX:=Bk.new wp 109 #[.pointer p0,.pointer p1,.pointer p2,.pointer p3]
     clear q0 q1 q2 q3
     generalize hwA:World.alloc wp _=wA at hbA hX ⊢
     obtain⟨xb,hxb⟩:∃xb,wp.heap.size=xb:=⟨_,rfl⟩
     rw[hxb] at hX
     try rw[hxb]
     have hbwA:Below w.heap.size w wA:=Hs.out.2.2.1.trans (hbA.mono hwe)
     have c1:=((bcell hbwA).1 h 1 hh).trans H7.out.2.2.2
     have hwpA:wp.heap.size≤wA.heap.size:=hbA.size
     have HA:=hide (And.intro hbwA (And.intro hX hbA))
     clear hwA hbA hX hbwA
     go_wp2_with fail
     go_loopw [31] (fun s W=>FIn wA x.ms e s W) (fun s _=>xn-(intOf s).toNat)
     case atStart=>exact⟨0,rfl,Nat.zero_le _,fun i p hi=>by omega,Below.refl _ _⟩
     case round=>
      obtain⟨j,rfl,hj,hno,hbj⟩:=hrel
      rw[HM.out.2.2.2] at hj
      have hji0:(0:Int)≤(j:Int):=Int.natCast_nonneg _
      have hwAr:wA.heap.size≤wr.heap.size:=hbj.size
      by_cases hjl:j<xn
      ·have hji1:(j:Int)<(xn:Int):=by omega
       have hjl':j<x.ms.length:=by rw[HM.out.2.2.2];exact hjl
       have hq:=HM.out.2.1.at_ hjl'
       have hqj:x.ms[j]? = some x.ms[j]:=List.getElem?_eq_getElem hjl'
       generalize x.ms[j]=q at *
       obtain⟨mb,mh,ecs,⟨hmF,u0,u1,u2,u3,hmB,hpe⟩,hmr⟩:=hq
       obtain⟨zb,zo,rfl,hF1,hzc⟩:=rown_at HM.out.1 hjl ecs
       have hbw:Below w.heap.size w wr:=HA.out.1.trans (hbj.mono HA.out.1.size)
       have z0:=((bcell hbw).1 _ _ (HF.out _ hF1)).trans (hzc 0 _ rfl)
       rw[Nat.mul_one,Nat.add_zero] at z0
       have hzl:zb<w.heap.size:=HF.out _ hF1
       have hml:mb<w.heap.size:=HF.out _ hmF
       have Hq:=hide (And.intro hbw (And.intro hbj (And.intro hno (And.intro hqj (And.intro (hmB.below hbw hml) (And.intro (HA.out.2.1.below hbj HA.out.2.1.lt) (And.intro hmr hmF)))))))
       have hxl:xb<wr.heap.size:=Nat.lt_of_lt_of_le HA.out.2.1.lt hbj.size
       have hww:w.heap.size≤wr.heap.size:=hbw.size
       obtain⟨qo,qm⟩:=q
       have HPE:=hide (show ∀pe,qo=some pe→PEAt F w pe [.pointer u0,.pointer u1,.pointer u2,.pointer u3] from hpe)
       clear hbw hbj hno hqj hmB hpe hmF hF1 hzc ecs hmr
       obtain⟨wo,hwo⟩:∃W,W=wr:=⟨_,rfl⟩
       subst hwo
       go_upto_region 10 with fail
       go_cut [48] (fun s wx=>s = .bool (okM e (qo,qm))∧Below wo.heap.size wo wx)
       case first=>
        obtain⟨S,hS⟩:∃S:World→Prop,(fun W=>Bk W mb 285 #[.bool qo.isNone,.pointer u0,.pointer u1,.pointer u2,.pointer u3,.pointer (some ⟨mh,0,none⟩)]∧Bk W xb 109 #[.pointer p0,.pointer p1,.pointer p2,.pointer p3])=S:=⟨_,rfl⟩
        have hS0:S wo.drew:=by rw[←hS];exact⟨Hq.out.2.2.2.2.1.drew,Hq.out.2.2.2.2.2.1.drew⟩
        cases qo with
        | none=>
         rw[show Option.isNone (none:Option E)=true from rfl] at hS
         refine wp_region_head 13 S (by rfl) (by kernel_rfl) ?_
         have hX:=hide (show ∀W:World,S W→Bk W mb 285 #[.bool true,.pointer u0,.pointer u1,.pointer u2,.pointer u3,.pointer (some ⟨mh,0,none⟩)]∧Bk W xb 109 #[.pointer p0,.pointer p1,.pointer p2,.pointer p3] from fun W hSw=>by rw[←hS] at hSw;exact hSw)
         iterate 6
          refine HT.nx (v:=?_) rfl (by kernel_rfl) (fun _ _ _ h=>h) (Or.inl ⟨by rfl,?_⟩) ‹_› ?_
          rotate_left
          ·intro W hSw;have hSw:=hX.out W hSw;have ml:=hSw.1.lt;have xl:=hSw.2.lt;have y0:=hSw.1.cell 0;have y1:=hSw.1.cell 1;have y2:=hSw.1.cell 2;have y3:=hSw.1.cell 3;have y4:=hSw.1.cell 4;have x0:=hSw.2.cell 0;have x1:=hSw.2.cell 1;have x2:=hSw.2.cell 2;have x3:=hSw.2.cell 3;clear hSw;simp at y0 y1 y2 y3 y4 x0 x1 x2 x3;go_simp;with_reducible rfl
          simp only[Act.put,zzA,zzZ,zzS]
         clear hX
         refine HT.take 6 (v:=undef) rfl (by kernel_rfl) (fun _ _ _ h=>h) (Or.inr ⟨by rfl,rfl⟩) ‹_› ?_
         simp only[Act.put,zzA,zzZ,zzS]
         refine HT.take 7 (v:=undef) rfl (by kernel_rfl) (fun _ _ _ h=>h) (Or.inr ⟨by rfl,rfl⟩) ‹_› ?_
         simp only[Act.put,zzA,zzZ,zzS]
         refine HT.take 8 (v:=undef) rfl (by kernel_rfl) (fun _ _ _ h=>h) (Or.inr ⟨by rfl,rfl⟩) ‹_› ?_
         simp only[Act.put,zzA,zzZ,zzS]
         refine HT.take 9 (v:=undef) rfl (by kernel_rfl) (fun _ _ _ h=>h) (Or.inr ⟨by rfl,rfl⟩) ‹_› ?_
         simp only[Act.put,zzA,zzZ,zzS]
         refine HT.take 10 (v:=undef) rfl (by kernel_rfl) (fun _ _ _ h=>h) (Or.inr ⟨by rfl,rfl⟩) ‹_› ?_
         simp only[Act.put,zzA,zzZ,zzS]
         refine HT.take 11 (v:=undef) rfl (by kernel_rfl) (fun _ _ _ h=>h) (Or.inr ⟨by rfl,rfl⟩) ‹_› ?_
         simp only[Act.put,zzA,zzZ,zzS]
         refine HT.take 12 (v:=undef) rfl (by kernel_rfl) (fun _ _ _ h=>h) (Or.inr ⟨by rfl,rfl⟩) ‹_› ?_
         simp only[Act.put,zzA,zzZ,zzS]
         refine HT.done (by kernel_rfl) ?_
         simp only[List.drop_succ_cons,List.drop_zero]
         clear hS0 hS
         go_wp2_with fail
         go_meet
         exact⟨rfl,below_drew (Below.refl _ _)⟩
        | some pe=>
         rw[show Option.isNone (some pe)=false from rfl] at hS
         refine wp_region_head 13 S (by rfl) (by kernel_rfl) ?_
         have hX:=hide (show ∀W:World,S W→Bk W mb 285 #[.bool false,.pointer u0,.pointer u1,.pointer u2,.pointer u3,.pointer (some ⟨mh,0,none⟩)]∧Bk W xb 109 #[.pointer p0,.pointer p1,.pointer p2,.pointer p3] from fun W hSw=>by rw[←hS] at hSw;exact hSw)
         iterate 12
          refine HT.nx (v:=?_) rfl (by kernel_rfl) (fun _ _ _ h=>h) (Or.inl ⟨by rfl,?_⟩) ‹_› ?_
          rotate_left
          ·intro W hSw;have hSw:=hX.out W hSw;have ml:=hSw.1.lt;have xl:=hSw.2.lt;have y0:=hSw.1.cell 0;have y1:=hSw.1.cell 1;have y2:=hSw.1.cell 2;have y3:=hSw.1.cell 3;have y4:=hSw.1.cell 4;have x0:=hSw.2.cell 0;have x1:=hSw.2.cell 1;have x2:=hSw.2.cell 2;have x3:=hSw.2.cell 3;clear hSw;simp at y0 y1 y2 y3 y4 x0 x1 x2 x3;go_simp;with_reducible rfl
          simp only[Act.put,zzA,zzZ,zzS]
         clear hX
         refine HT.one 12 rfl (by kernel_rfl) (by rfl) (fun K hK=>?_)
         go_simp
         have hbd:Below w.heap.size w wo.drew:=below_drew Hq.out.1
         have hFo:∀b,F b→Old wo.drew b:=fun b hb=>Nat.lt_of_lt_of_le (HF.out b hb) hbd.size
         have HQ:=hide (peEquals_calls (w:=wo.drew) (((HPE.out pe rfl).keeps (Keeps.below hbd HF.out)).mono hFo) ((HXE.out.keeps (Keeps.below hbd HF.out)).mono hFo))
         refine HQ.out.mono ?_
         rintro en w3 ⟨rfl,hb3⟩
         have hb3':Below wo.heap.size wo w3:=below_drew' hb3
         have hS1:S w3:=by
          rw[←hS] at hS0 ⊢
          exact⟨hS0.1.below hb3 hS0.1.lt,hS0.2.below hb3 hS0.2.lt⟩
         clear hb3 HQ hbd hFo
         obtain⟨bv,hbv⟩:∃bv,E.eqv pe e=bv:=⟨_,rfl⟩
         rw[hbv]
         have Hbv:=hide (And.intro hbv hb3')
         clear hbv hb3'
         go_simp
         refine hK.out _ _ hS1 ?_
         clear hK K
         refine HT.done (by kernel_rfl) ?_
         simp only[List.drop_succ_cons,List.drop_zero]
         clear hS0 hS1 hS
         go_wp2_with fail
         go_meet
         exact⟨congrArg Value.bool Hbv.out.1.symm,Hbv.out.2⟩
       case rest=>
        obtain⟨rfl,hbc⟩:=hcut
        obtain⟨bv,hbv⟩:∃bv,okM e (qo,qm)=bv:=⟨_,rfl⟩
        rw[hbv]
        have Hc:=hide (And.intro hbv hbc)
        have hwoc:wo.heap.size≤wc.heap.size:=hbc.size
        clear hbv hbc
        cases bv
        ·have Hfin:=hide (show FIn wA x.ms e (.int .i64 ((j+1:Nat):Int)) wc from⟨j+1,rfl,by rw[HM.out.2.2.2];omega,fun i p hi hp=>by
          by_cases hij:i=j
          ·subst hij
           rw[Hq.out.2.2.2.1] at hp
           cases hp
           exact Hc.out.1
          ·exact Hq.out.2.2.1 i p (by omega) hp,Hq.out.2.1.trans (Hc.out.2.mono hwAr)⟩)
         go_wp2_with fail
         exact⟨Hfin.out,by simp[intOf];omega⟩
        ·have hhit:=hitM_at Hq.out.2.2.2.1 Hc.out.1 Hq.out.2.2.1
         have hbX:=Hq.out.2.1.trans (Hc.out.2.mono hwAr)
         have hbw:Below w.heap.size w wc:=HA.out.1.trans (hbX.mono HA.out.1.size)
         have hX:=HA.out.2.1.below hbX HA.out.2.1.lt
         have hbp:=HA.out.2.2.trans (hbX.mono hwpA)
         have x0:=hX.cell 0
         have x1:=hX.cell 1
         have x2:=hX.cell 2
         have x3:=hX.cell 3
         simp at x0 x1 x2 x3
         have hwpc:wp.heap.size≤wc.heap.size:=hbp.size
         have hsl:=Hs.out.1.own.lt
         have hes1:ESet F wc w.heap.size L sv us:=Hs.out.1.below (fun b hb=>by have:=HF.out b hb;omega) hbp
         have HI:=hide (esInsert_calls hes1 (fun b hb=>⟨by have:=HF.out b hb;have:=hbw.size;omega,by have:=HF.out b hb;omega,fun e'=>by have:=Hs.out.2.1 b e';have:=HF.out b hb;omega⟩) (HXE.out.keeps (Keeps.below hbw HF.out)) Hs.out.2.2.2.2.2.2.1 Hs.out.2.2.2.2.2.1 Hs.out.2.2.2.2.2.2.2.1 (by have:=Hs.out.2.2.2.2.2.2.2.2;unfold R47;omega))
         have hsn:=Hs.out.2.2.2.1 (by rw[hhit];rfl)
         have Hw:=hide (And.intro hbw hsn)
         have hxlc:=hX.lt
         clear hbX hbw hX hbp hhit Hq Hc hsl hes1 hsn
         go_wp2_with fail
         refine HI.out.mono ?_
         rintro en w5 ⟨rfl,s5,us5,hes5,hblk,hG⟩
         have hbw5:Below w.heap.size w w5:=by
          have h1:=Hw.out.1
          refine⟨hG.os.trans h1.os,hG.tape.trans h1.tape,hG.output.trans h1.output,Nat.le_trans h1.size hG.size,fun b hb=>?_⟩
          rw[hG.block b (by have:=h1.size;omega) (by omega) fun e'=>by have:=Hs.out.2.1 b e'.symm;omega]
          exact h1.block b hb
         have Hx:=hide (show SFInv F w m x (.int .i64 ((k+1:Nat):Int)) w5 from⟨k+1,s5,us5,rfl,by rw[Hn.out];omega,by rw[Hw.out.2];exact hes5,fun b hb=>by
          rcases hblk with e' | ⟨b',e',hb'⟩
          ·exact Hs.out.2.1 b (by rw[←e'];exact hb)
          ·rw[e'] at hb;cases hb;omega,hbw5⟩)
         clear hes5 hblk hG hbw5 Hw HI x0 x1 x2 x3
         go_wp2_with fail
         exact⟨Hx.out,by simp[intOf];omega⟩
      ·have hji1:¬(j:Int)<(xn:Int):=by omega
       have hbp:Below wp.heap.size wp wr:=HA.out.2.2.trans (hbj.mono hwpA)
       have hnone:hitM e x.ms=none:=hitM_none fun i p hp=>hno i p (by have:=(List.getElem?_eq_some_iff.1 hp).1;have:=HM.out.2.2.2;omega) hp
       have hsn:=Hs.out.2.2.2.2.1 (by rw[hnone];rfl)
       have Hx:=hide (show SFInv F w m x (.int .i64 ((k+1:Nat):Int)) wr from⟨k+1,sv,us,rfl,by rw[Hn.out];omega,by rw[hsn];exact Hs.out.1.below (fun b hb=>by have:=HF.out b hb;omega) hbp,Hs.out.2.1,Hs.out.2.2.1.trans (hbp.mono hwe)⟩)
       clear hbp hnone hsn hno hbj
       go_wp2_with fail
       exact⟨Hx.out,by simp[intOf];omega⟩
    ·have hke:k=n:=by omega
     subst hke
     have hki1:¬((k:Nat):Int)<(k:Int):=by omega
     have hLk:((m.take k).filter fun e=>(hitM e x.ms).isSome)=m.filter fun e=>(hitM e x.ms).isSome:=by rw[List.take_of_length_le (by rw[Hn.out];exact Nat.le_refl _)]
     rw[hLk] at hes
     have hfl:=List.length_filter_le (fun e=>(hitM e x.ms).isSome) m
     rw[Hn.out] at hfl
     have hkl:=filtK_length (ks:=ks) (x:=x)
     have hres:=filtS_mk (m:=m) (ks:=ks) Hxa.out
     obtain⟨mm,hmm⟩:∃mm,(m.filter fun e=>(hitM e x.ms).isSome)=mm:=⟨_,rfl⟩
     obtain⟨kk,hkk⟩:∃kk,filtK ks x=kk:=⟨_,rfl⟩
     rw[hmm] at hes hfl hres
     rw[hkk] at hkl HNM hres
     have Hres:=hide hres
     clear hres
     obtain⟨sA,sc,rfl,hsc1,hsc2⟩:=own_form hes.own
     have o0:=hes.bk.cell 0
     have hol:=hes.bk.lt
     simp at o0
     have Hes:=hide (And.intro hes (And.intro hsv (And.intro hb (And.intro hsc1 (And.intro hsc2 (And.intro hfl hkl))))))
     have HN1:=hide (HNM.out wr.drew (below_drew hb))
     clear hes hsv hb hLk hfl hkl hmm hkk HNM hsc1 hsc2
     go_wp2_with fail
     obtain⟨S,hS⟩:∃S:World→Prop,(fun W=>W.cell? ⟨w.heap.size,0,none⟩=some (.slice sA mm.length sc))=S:=⟨_,rfl⟩
     have hS0:S wr.drew:=by rw[←hS];exact o0
     refine wp_region_head 9 S (by rfl) (by kernel_rfl) ?_
     have hX:=hide (show ∀W:World,S W→W.cell? ⟨w.heap.size,0,none⟩=some (.slice sA mm.length sc) from fun W hSw=>by rw[←hS] at hSw;exact hSw)
     iterate 5
      refine HT.nx (v:=?_) rfl (by kernel_rfl) (fun _ _ _ h=>h) (Or.inl ⟨by rfl,?_⟩) ‹_› ?_
      rotate_left
      ·intro W hSw;have hSw:=hX.out W hSw;go_simp;with_reducible rfl
      simp only[Act.put,zzA,zzZ,zzS]
     clear hX
     refine HT.one 5 rfl (by kernel_rfl) (by rfl) (fun K hK=>?_)
     go_simp
     refine HN1.out.mono ?_
     rintro en w2 ⟨nb,oB,od,us2,rfl,hnb,hnbk,hod1,hod2,hrow2,hcel2,hb2⟩
     have hb2':Below wr.heap.size wr w2:=below_drew' hb2
     have z0:=hnbk.cell 0
     have zl:=hnbk.lt
     simp at z0
     have hSw2:S w2:=by rw[←hS] at hS0 ⊢;exact((bcell hb2').1 _ _ hol).trans hS0
     have H2:=hide (And.intro hod1 (And.intro hod2 (And.intro hrow2 (And.intro hcel2 hb2'))))
     clear hnb hnbk hod1 hod2 hrow2 hcel2 hb2 hb2' HN1
     go_simp
     refine hK.out _ _ hSw2 ?_
     clear hK K hS0 o0
     obtain⟨S2,hS2⟩:∃S2:World→Prop,(fun W=>S W∧W.cell? ⟨nb,0,none⟩=some (.slice oB kk.length od))=S2:=⟨_,rfl⟩
     have hS3:S2 w2:=by rw[←hS2];exact⟨hSw2,z0⟩
     refine HT.change (S2:=S2) (fun W h=>by rw[←hS2] at h;exact h.1) ?_
     have hX:=hide (show ∀W:World,S2 W→S W∧W.cell? ⟨nb,0,none⟩=some (.slice oB kk.length od) from fun W hSw=>by rw[←hS2] at hSw;exact hSw)
     iterate 3
      refine HT.nx (v:=?_) rfl (by kernel_rfl) (fun _ _ _ h=>h) (Or.inl ⟨by rfl,?_⟩) ‹_› ?_
      rotate_left
      ·intro W hSw;have hSw:=hX.out W hSw;go_simp;with_reducible rfl
      simp only[Act.put,zzA,zzZ,zzS]
     clear hX
     refine HT.done (by kernel_rfl) ?_
     simp only[List.drop_succ_cons,List.drop_zero]
     clear hS3 hS2 hSw2 z0 hS
     have hw12:wr.heap.size≤w2.heap.size:=H2.out.2.2.2.2.size
     have hwwr:w.heap.size≤wr.heap.size:=Hes.out.2.2.1.size
     have hbx:Below w2.heap.size w2 (w2.alloc (.cells #[.slice sA mm.length sc,.slice oB kk.length od] 130)):=(Below.refl _ _).alloc (Nat.le_refl _) _
     have hbox:=Bk.new w2 130 #[.slice sA mm.length sc,.slice oB kk.length od]
     have hszx:(w2.alloc (.cells #[.slice sA mm.length sc,.slice oB kk.length od] 130)).heap.size=w2.heap.size+1:=World.size_alloc _ _
     have hbz:=H2.out.2.2.2.2.trans (hbx.mono hw12)
     have hfin:SetR (fun b=>F b∨Fr w.heap.size (w2.alloc (.cells #[.slice sA mm.length sc,.slice oB kk.length od] 130)) b) (w2.alloc (.cells #[.slice sA mm.length sc,.slice oB kk.length od] 130)) w2.heap.size (.mk mm kk):=by
      have hsl:=Hes.out.1.own.lt
      refine SetR.of_parts (xs:=us) (ys:=us2) (.inr ⟨by omega,by rw[hszx];omega⟩) hbox ?_ ?_ Hes.out.2.2.2.1 Hes.out.2.2.2.2.1 H2.out.1 H2.out.2.1 ?_ ?_ ?_ ?_
      ·have:=Hes.out.2.2.2.2.2.1;unfold R47;omega
      ·have:=Hes.out.2.2.2.2.2.2;have:=hk47.out;unfold R47 at *;omega
      ·exact Row.of_own (ownsRow_below Hes.out.1.own hbz (Nat.le_refl _)) fun b hb=>.inr ⟨by have:=Hes.out.2.1 b hb;omega,by rw[hszx];have:=(hsl b hb).2;omega⟩
      ·exact(H2.out.2.2.1.keeps (Keeps.below hbx fun b hb=>hb.2)).mono fun b hb=>.inr ⟨by have h1:wr.heap.size≤b:=hb.1;omega,by rw[hszx];have:=hb.2;omega⟩
      ·exact(Hes.out.1.at_.mono fun _ _ h=>(h.keeps (Keeps.below hbz fun b hb=>by have:=HF.out b hb;omega)).mono fun b hb=>.inl hb)
      ·exact H2.out.2.2.2.1.mono fun _ _ h=>KQ.mono (KQ.keeps h (Keeps.below hbx fun b hb=>by
        rcases hb with h1 | h1
        ·have:=HF.out b h1;omega
        ·exact h1.2)) fun b hb=>hb.imp id fun h1=>⟨by have h2:wr.heap.size≤b:=h1.1;omega,by rw[hszx];have:=h1.2;omega⟩
     have Hf:=hide (And.intro hfin (Hes.out.2.2.1.trans (hbz.mono hwwr)))
     clear hfin hbx hbox hszx hbz Hes H2
     go_wp2
     go_ret
     exact⟨w2.heap.size,rfl,by rw[Hres.out];exact Hf.out.1,Hf.out.2⟩
  ·have c0:=b2.cell 0
   simp at c0
   rw[filtS_all hba]
   have Hs:=hide (hs.mono (G:=fun b=>F b∨Fr w.heap.size w b) fun b hb=>.inl hb)
   clear hs hm hwf hN hpl hkN hkW IH hmo b1 b2 b3 b4 b5 b6 b7 hF hba
   go_enter Tryz.func105,Tryz.ntmps105
   go_wp2
   go_ret
   exact⟨g,rfl,Hs.out,Below.refl _ _⟩
termination_by s=>s
decreasing_by assumption
end Go.Proofs.YtbicoknghdgahaaGreat
namespace Go.Proofs.YtbicoknghdgahaaGreat
open Go.RowKit
attribute [local go_sem] run_store_float
theorem include_calls {A:Option Addr} {c h:Nat} {w:World} (hr:Row (Old w) w 1 A 1 [.pointer (some ⟨h,0,none⟩)]) :
  Calls Tryz.prog 107 #[.slice A 1 c] w fun en w'=>en = .returned (.iface 290 (.agg #[.pointer (some ⟨h,0,none⟩)]))∧w'=w:=by
 obtain⟨b,o,rfl,hF,hc⟩:=hr.2 (by omega)
 have q0:=hc 0 _ rfl
 rw[Nat.add_zero] at q0
 have hb:b<w.heap.size:=hF
 clear hr hc hF
 go_enter Tryz.func107,Tryz.ntmps107
 go_wp2_with fail
 go_loopw [3,4] (fun s3 s4 W=>s3 = .pointer (some ⟨h,0,none⟩)∧s4 = .int .i64 1∧W=w) (fun _ _ _=>0)
 case atStart=>exact⟨rfl,rfl,rfl⟩
 case round=>
  obtain⟨rfl,rfl,rfl⟩:=hrel
  go_wp2_with fail
  go_ret
  exact⟨rfl,rfl⟩
theorem filter_calls {F:Nat→Prop} {w:World} {g h:Nat} {s:St} {x:Mt} (hF:∀b,F b→b<w.heap.size) (hs:SetR F w g s) (hm:MatR F w h x) (hwf:s.WF) (hN:s.paths.length≤N38) :
  Calls Tryz.prog 306 #[.agg #[.pointer (some ⟨h,0,none⟩)],.pointer (some ⟨g,0,none⟩)] w (GivesF F (filtS s x) w):=by
 have hbx:Below w.heap.size w (w.alloc (.cells #[.pointer (some ⟨h,0,none⟩)] 290)):=(Below.refl _ _).alloc (Nat.le_refl _) _
 have hX:=Bk.new w 290 #[.pointer (some ⟨h,0,none⟩)]
 have hl:∀b,F b→b<(w.alloc (.cells #[.pointer (some ⟨h,0,none⟩)] 290)).heap.size:=fun b hb=>Nat.lt_of_lt_of_le (hF b hb) hbx.size
 have HW:=hide (filtS_calls s hl (hs.keeps (Keeps.below hbx hF)) (hm.keeps (Keeps.below hbx hF)) hwf hN)
 have Hb:=hide hbx
 have HF:=hide hF
 clear hs hm hwf hN hl hF
 go_enter Tryz.func306,Tryz.ntmps306
 go_wp2_with fail
 clear hbx
 generalize hwA:World.alloc w _=wA at hX HW Hb ⊢
 refine HW.out.mono ?_
 rintro en w2 ⟨g2,rfl,hs2,hb2⟩
 have Hf:=hide (show GivesF F (filtS s x) w (.returned (.pointer (some ⟨g2,0,none⟩))) w2 from⟨g2,rfl,hs2.mono fun b hb=>hb.imp id fun h1=>⟨Nat.le_trans Hb.out.size h1.1,h1.2⟩,Hb.out.trans (hb2.mono Hb.out.size)⟩)
 clear hs2 hb2
 go_wp2
 go_ret
 exact Hf.out
theorem filtK_mem {ks:List (E × St)} {x:Mt} {k:E × St} (h:k ∈ filtK ks x):∃k0 ∈ ks,∃y,k=(k0.1,filtS k0.2 y):=by
 induction ks with
 | nil=>rw[filtK] at h;cases h
 | cons a ks ih=>
  rw[filtK_cons] at h
  rcases List.mem_append.1 h with h | h
  ·unfold filt1 at h
   split at h
   ·split at h
    ·exact⟨a,by simp,_,by simpa using h⟩
    ·cases h
   ·cases h
  ·obtain⟨k0,h0,y,e⟩:=ih h
   exact⟨k0,by simp[h0],y,e⟩
theorem filtS_ht:∀(s:St) (x:Mt) {n:Nat},s.Ht n→(filtS s x).Ht n
 | .mk m ks,x,n,h=>by
  by_cases hx:x.all=true
  ·rw[filtS_all hx];exact h
  ·rw[filtS_mk (by simpa using hx)]
   cases h with
   | mk h=>
    refine .mk fun k hk=>?_
    obtain⟨k0,h0,y,rfl⟩:=filtK_mem hk
    have hlt:SizeOf.sizeOf k0.2<SizeOf.sizeOf (St.mk m ks):=kid_lt (s:=.mk m ks) h0
    exact filtS_ht k0.2 y (h k0 h0)
termination_by s=>s
decreasing_by assumption
theorem run_nilAhead (n:Nat) (v:Value) (w:World):(nilAhead (n+1) 290 (.agg #[v]) "Filter").run Tryz.prog w = .ok (some false) w:=by kernel_rfl
theorem run_filterMethod (n:Nat) (v:Value) (w:World):(method (n+1) 290 (.agg #[v]) "Filter").run Tryz.prog w = .ok (306,.agg #[v]) w:=by kernel_rfl
attribute [local go_sem] run_nilAhead run_filterMethod
set_option maxRecDepth 100000 in
set_option maxHeartbeats 8000000 in
theorem implSetFilter_calls {l:List (List REl)} {p:List (Bool × REl)} {A B:Option Addr} {c d N:Nat} {w:World} (h:PathsAt (Old w) w l A c) (hp:PatsAt (Old w) w [p] B d) (hl:∀p ∈ pels l,POk p) (hn:l.length≤N38) (hht:(setP (pels l)).Ht N) (hN:N*168≤R47) :
  Calls Tryz.prog 55 #[.slice A l.length c,.slice B 1 d] w (GivesPaths ((filtS (setP (pels l)) (chainM (patP p))).paths.map (List.map E.toREl)) w):=by
 have HTS:=hide fun(W:World) (hb:Below w.heap.size w W)=>toSet_calls (h.at_ hb) hl hn
 have HTM:=hide fun(W:World) (hb:Below w.heap.size w W)=>(toMatchers_calls (hp.at_ hb):Calls Tryz.prog 108 #[.slice B 1 d] W (GivesMs [patP p] W))
 have hcn:(setP (pels l)).paths.length≤N38:=by
  have h1:=setP_count (pels l)
  rw[show(pels l).length=l.length from List.length_map _] at h1
  omega
 have hwf:=setP_wf hl
 have hcount:(filtS (setP (pels l)) (chainM (patP p))).paths.length*24≤R47:=by
  have:=filtS_count (setP (pels l)) (chainM (patP p))
  unfold R47;unfold N38 at hcn;omega
 have Hx:=hide (And.intro hwf (And.intro hcn (And.intro hcount (And.intro (filtS_ht _ (chainM (patP p)) hht) hN))))
 clear h hp hl hn hht hcn hwf hcount hN
 generalize setP (pels l)=s at *
 generalize l.length=n at *
 go_enter Tryz.func55,Tryz.ntmps55
 go_wp2_with fail
 obtain⟨S,hS⟩:∃S:World→Prop,∀W,S W:=⟨fun _=>True,fun _=>trivial⟩
 have hS0:S w.drew:=hS _
 refine wp_region_head 10 S (by rfl) (by kernel_rfl) ?_
 refine HT.take 0 (v:=?_) rfl (by kernel_rfl) (fun _ _ _ h=>h) (Or.inl ⟨by rfl,?_⟩) ‹_› ?_
 rotate_left
 ·intro W hSw;go_simp;with_reducible rfl
 simp only[Act.put,zzA,zzZ,zzS]
 refine HT.take 3 (v:=?_) rfl (by kernel_rfl) (fun _ _ _ h=>h) (Or.inl ⟨by rfl,?_⟩) ‹_› ?_
 rotate_left
 ·intro W hSw;go_simp;with_reducible rfl
 simp only[Act.put,zzA,zzZ,zzS]
 refine HT.one 1 rfl (by kernel_rfl) (by rfl) (fun K hK=>?_)
 go_simp
 refine(HTM.out _ (below_drew (Below.refl _ _))).mono ?_
 rintro en w1 ⟨C,e,xs1,rfl,-,-,hrow,hcel,hb1⟩
 have hb1':=below_drew' hb1
 obtain⟨h,hxs,hmr⟩:=hcel.at_ (show 0<[patP p].length by simp)
 have hxs1:xs1=[.pointer (some ⟨h,0,none⟩)]:=by
  have hl1:=hrow.1
  have hl1:xs1.length=1:=hl1
  rw[←hxs,Nat.zero_mul,List.drop_zero,List.take_of_length_le (by omega)]
 subst hxs1
 have HI:=hide (include_calls (A:=C) (c:=e) (h:=h) (w:=w1) (hrow.mono fun b hb=>hb.2))
 have H1:=hide (And.intro hb1' (show MatR (Fr w.heap.size w1) w1 h (chainM (patP p)) from hmr))
 clear hb1 hb1' hrow hcel hxs hmr HTM
 have hS1:=hS w1
 refine hK.out _ _ hS1 ?_
 clear hK K hS0
 refine HT.one 2 rfl (by kernel_rfl) (by rfl) (fun K hK=>?_)
 go_simp
 refine HI.out.mono ?_
 rintro en w2 ⟨rfl,rfl⟩
 refine hK.out _ _ (hS _) ?_
 clear hK K HI
 refine HT.take 5 (v:=?_) rfl (by kernel_rfl) (fun _ _ _ h=>h) (Or.inl ⟨by rfl,?_⟩) ‹_› ?_
 rotate_left
 ·intro W hSw;go_simp;with_reducible rfl
 simp only[Act.put,zzA,zzZ,zzS]
 refine HT.take 6 (v:=?_) rfl (by kernel_rfl) (fun _ _ _ h=>h) (Or.inl ⟨by rfl,?_⟩) ‹_› ?_
 rotate_left
 ·intro W hSw;go_simp;with_reducible rfl
 simp only[Act.put,zzA,zzZ,zzS]
 refine HT.take 7 (v:=?_) rfl (by kernel_rfl) (fun _ _ _ h=>h) (Or.inl ⟨by rfl,?_⟩) ‹_› ?_
 rotate_left
 ·intro W hSw;go_simp;with_reducible rfl
 simp only[Act.put,zzA,zzZ,zzS]
 refine HT.one 4 rfl (by kernel_rfl) (by rfl) (fun K hK=>?_)
 go_simp
 refine(HTS.out _ (H1.out.1.mono (Nat.le_refl _))).mono ?_
 intro en w3 hg
 obtain⟨rfl,hr3,hb3⟩:=hg.read
 have hm3:MatR (Old w3) w3 h (chainM (patP p)):=(H1.out.2.keeps (Keeps.below hb3 fun b hb=>hb.2)).mono fun b hb=>Nat.lt_of_lt_of_le hb.2 hb3.size
 have HF:=hide (filter_calls (F:=Old w3) (w:=w3) (fun b hb=>hb) (hr3.mono fun b hb=>hb.2) hm3 Hx.out.1 Hx.out.2.1)
 have H3:=hide (H1.out.1.trans (hb3.mono H1.out.1.size))
 clear hr3 hm3 hb3 hg H1 HTS
 refine hK.out _ _ (hS _) ?_
 clear hK K
 refine HT.one 8 rfl (by kernel_rfl) (by rfl) (fun K hK=>?_)
 go_simp
 refine HF.out.mono ?_
 rintro en w4 ⟨g4,rfl,hs4,hb4⟩
 have hs4':SetR (Old w4) w4 g4 (filtS s (chainM (patP p))):=hs4.mono fun b hb=>by
  rcases hb with h1 | h1
  ·have h1:b<w3.heap.size:=h1;have:=hb4.size;show b<w4.heap.size;omega
  ·exact h1.2
 have HFS:=hide (fromSet_calls hs4' Hx.out.2.2.2.1 Hx.out.2.2.2.2 Hx.out.2.2.1)
 have H4:=hide (H3.out.trans (hb4.mono H3.out.size))
 clear hs4 hs4' hb4 HF H3 Hx
 generalize (filtS s (chainM (patP p))).paths.map (List.map E.toREl)=rs at *
 refine hK.out _ _ (hS _) ?_
 clear hK K
 refine HT.one 9 rfl (by kernel_rfl) (by rfl) (fun K hK=>?_)
 go_simp
 refine HFS.out.mono ?_
 rintro en w5 ⟨B5,d5,rfl,hp5,hb5⟩
 have Hf:=hide (And.intro (hp5.mono fun b hb=>⟨Nat.le_trans H4.out.size hb.1,hb.2⟩:PathsAt (Fr w.heap.size w5) w5 rs B5 d5) (H4.out.trans (hb5.mono H4.out.size)))
 clear hp5 hb5 HFS H4
 refine hK.out _ _ (hS _) ?_
 clear hK K
 refine HT.done (by kernel_rfl) ?_
 simp only[List.drop_succ_cons,List.drop_zero]
 go_wp2
 go_ret
 exact⟨B5,d5,rfl,Hf.out.1,Hf.out.2⟩
end Go.Proofs.YtbicoknghdgahaaGreat
