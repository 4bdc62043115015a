import Derived.Test.YtbicoknghdgahaaGreatRA05
set_option linter.unusedVariables false
set_option linter.unusedSimpArgs false
namespace Go.Proofs.YtbicoknghdgahaaGreat
open Go.RowKit
attribute [local go_sem] run_store_float
def FIn (w0:World) (ms:List (Option E × Mt)) (e:E) (s:Value) (W:World):Prop:=∃j:Nat,s = .int .i64 (j:Int)∧j≤ms.length∧(∀(i:Nat) p,i<j→ms[i]? = some p→okM e p=false)∧Below w0.heap.size w0 W
def SFInv (F:Nat→Prop) (w:World) (m:List E) (x:Mt) (s:Value) (W:World):Prop:=
 ∃(k:Nat) (sv:Value) (us:List Value),s = .int .i64 (k:Int)∧k≤m.length∧ESet F W w.heap.size ((m.take k).filter fun e=>(hitM e x.ms).isSome) sv us∧(∀b,sv.ownBlock=some b→w.heap.size<b)∧Below w.heap.size w W
def NFInv (F:Nat→Prop) (w:World) (ks:List (E × St)) (x:Mt) (s5 s21:Value) (W:World):Prop:=
 ∃(k:Nat) (us:List Value),s21 = .int .i64 (k:Int)∧k≤ks.length∧W.ownsRow w.heap.size 214 5 s5 (filtK (ks.take k) x).length us∧Cells 5 (KQ (Aloof (fun b=>F b∨w.heap.size≤b) W s5) W) (filtK (ks.take k) x) us∧Below w.heap.size w W
def NMPost (F:Nat→Prop) (w:World) (ks:List (E × St)) (en:Ending) (w':World):Prop:=
 ∃(b:Nat) (A:Option Addr) (c:Nat) (us:List Value),en = .returned (.pointer (some ⟨b,0,none⟩))∧w.heap.size≤b∧Bk w' b 128 #[.slice A ks.length c]∧ks.length≤c∧c≤maxLen∧Row (fun b=>Fr w.heap.size w' b) w' 5 A ks.length us∧Cells 5 (KQ (fun b=>F b∨Fr w.heap.size w' b) w') ks us∧Below w.heap.size w w'
theorem filter_take {m:List E} {P:E→Bool} {k:Nat} (hk:k<m.length):(m.take (k+1)).filter P=(m.take k).filter P++(if P m[k]=true then [m[k]] else []):=by
 rw[List.take_succ_eq_append_getElem hk,List.filter_append]
 congr 1
 simp only[List.filter_cons,List.filter_nil]
theorem filtK_take {ks:List (E × St)} {x:Mt} {k:Nat} (hk:k<ks.length):filtK (ks.take (k+1)) x=filtK (ks.take k) x++filt1 x ks[k]:=by
 rw[List.take_succ_eq_append_getElem hk,filtK_snoc]
set_option maxRecDepth 100000 in
set_option maxHeartbeats 16000000 in
theorem nmFilter_calls {ks:List (E × St)} (IH:∀k ∈ ks,∀{F:Nat→Prop} {W:World} {ga gx:Nat} {y:Mt},(∀b,F b→b<W.heap.size)→SetR F W ga k.2→MatR F W gx y→Calls Tryz.prog 105 #[.pointer (some ⟨ga,0,none⟩),.pointer (some ⟨gx,0,none⟩)] W (GivesF F (filtS k.2 y) W))
  {F:Nat→Prop} {w:World} {g h:Nat} {x:Mt} {KA:Option Addr} {kc:Nat} {ys:List Value} (hxa:x.all=false) (hF:∀b,F b→b<w.heap.size) (hg:g<w.heap.size) (m0:w.cell? ⟨g,1,none⟩=some (.slice KA ks.length kc)) (h47:ks.length*40≤R47) (hr:Row F w 5 KA ks.length ys) (hx:Cells 5 (KQ F w) ks ys) (hN:∀k ∈ ks,k.2.paths.length≤N38) (hm:MatR F w h x) :
  Calls Tryz.prog 161 #[.pointer (some ⟨g,1,none⟩),.pointer (some ⟨h,0,none⟩)] w (NMPost F w (filtK ks x)):=by
 have h47':ks.length*40≤140737488351232:=h47
 obtain⟨i9,hi9,hz9,hs9,hb9⟩:=info_parts node_info
 obtain⟨XA,xc,zs,b1,b2,b3,b4,b5,b6,b7⟩:=hm.parts
 rw[hxa] at b2
 have hh:h<w.heap.size:=hF _ b1
 obtain⟨n,hn⟩:∃n,ks.length=n:=⟨_,rfl⟩
 obtain⟨xn,hxn⟩:∃xn,x.ms.length=xn:=⟨_,rfl⟩
 rw[hn] at m0 hr h47'
 rw[hxn] at b2 b6
 have c0:=b2.cell 0
 have c1:=b2.cell 1
 simp at c0 c1
 have H7:=hide (And.intro hr (And.intro hx (And.intro m0 c1)))
 have HM:=hide (And.intro b6 (And.intro b7 (And.intro b3 hxn)))
 have hx47:xn*8≤140737488351232:=by rw[←hxn];exact b3
 have HF:=hide hF
 have HN:=hide hN
 have Hih:=hide IH
 have Hn:=hide hn
 clear hr hx IH h47 hF hN hm b1 b2 b3 b4 b5 b6 b7 hn hxn hxa
 go_enter Tryz.func161,Tryz.ntmps161
 go_wp2_with fail
 go_loopw [5,21] (fun s5 s21 W=>NFInv F w ks x s5 s21 W) (fun _ s _=>n-(intOf s).toNat)
 case atStart=>exact⟨0,[],rfl,Nat.zero_le _,by rw[List.take_zero,filtK];exact World.ownsRow_nil _ _ _ _,by rw[List.take_zero,filtK];exact Cells.nil_,Below.refl _ _⟩
 case round=>
  clear m0 c0 c1
  obtain⟨k,us,rfl,hk,hown,hcel,hb⟩:=hrel
  rw[Hn.out] at hk
  have hki0:(0:Int)≤(k:Int):=Int.natCast_nonneg _
  have hfl:=filtK_length (ks:=ks.take k) (x:=x)
  rw[List.length_take,Hn.out] at hfl
  obtain⟨L,hL⟩:∃L,filtK (ks.take k) x=L:=⟨_,rfl⟩
  rw[hL] at hown hcel hfl
  obtain⟨q,hq⟩:∃q,L.length=q:=⟨_,rfl⟩
  rw[hq] at hown hfl
  have hqk:q≤k:=by omega
  obtain⟨oA,oc,rfl,hoc1,hoc2⟩:=own_form hown
  by_cases hlt:k<n
  ·have hki1:(k:Int)<(n:Int):=by omega
   have hlt':k<ks.length:=by rw[Hn.out];exact hlt
   have hkx:=H7.out.2.1.at_ hlt'
   have hmem:=List.getElem_mem hlt'
   have hsn:=filtK_take (x:=x) hlt'
   rw[hL] at hsn
   generalize ks[k]=fx at *
   generalize hcs:(ys.drop (k*5)).take 5=fcs at hkx
   obtain⟨p0,p1,p2,p3,gk,rfl,hpe,hset⟩:=hkx.form
   obtain⟨rb,ro,rfl,hF1,hc⟩:=rown_at H7.out.1 hlt hcs
   have ec:=(bcell hb).1
   have q0:=(ec _ _ (HF.out _ hF1)).trans (hc 0 _ rfl)
   have q1:=(ec _ _ (HF.out _ hF1)).trans (hc 1 _ rfl)
   have q2:=(ec _ _ (HF.out _ hF1)).trans (hc 2 _ rfl)
   have q3:=(ec _ _ (HF.out _ hF1)).trans (hc 3 _ rfl)
   have q4:=(ec _ _ (HF.out _ hF1)).trans (hc 4 _ rfl)
   rw[Nat.add_zero] at q0
   have hrb:rb<w.heap.size:=HF.out _ hF1
   have hwe:w.heap.size≤wr.heap.size:=hb.size
   have HXE:=hide hpe
   have Hs:=hide (And.intro hown (And.intro hcel (And.intro hb (And.intro hsn (And.intro hset (And.intro hmem hq))))))
   clear hown hcel hb hsn hset hmem hpe hkx hcs hc ec hF1 hL hq
   obtain⟨wp,hwp⟩:∃W,W=wr:=⟨_,rfl⟩
   subst hwp
   obtain⟨e,he⟩:∃e,fx.1=e:=⟨_,rfl⟩
   rw[he] at HXE
   have He:=hide he
   clear he
   go_upto_region 7 with fail
   have hbA:Below wp.heap.size wp (wp.alloc (.cells #[.pointer p0,.pointer p1,.pointer p2,.pointer p3,.pointer (some ⟨gk,0,none⟩)] 214)):=(Below.refl _ _).alloc (Nat.le_refl _) _
   have hX:=Bk.new wp 214 #[.pointer p0,.pointer p1,.pointer p2,.pointer p3,.pointer (some ⟨gk,0,none⟩)]
   clear q0 q1 q2 q3 q4
   generalize hwA:World.alloc wp _=wA at hbA hX ⊢
   obtain⟨xb,hxb⟩:∃xb,wp.heap.size=xb:=⟨_,rfl⟩
   rw[hxb] at hX
   try rw[hxb]
   have hbwA:Below w.heap.size w wA:=Hs.out.2.2.1.trans (hbA.mono hwe)
   have c1:=((bcell hbwA).1 h 1 hh).trans H7.out.2.2.2
   have hwpA:wp.heap.size≤wA.heap.size:=hbA.size
   have HA:=hide (And.intro hbwA (And.intro hX hbA))
   clear hwA hbA hX hbwA
   go_wp2_with fail
   go_loopw [5,30] (fun s5 s W=>s5 = .slice oA q oc∧FIn wA x.ms e s W) (fun _ s _=>xn-(intOf s).toNat)
   case atStart=>exact⟨rfl,0,rfl,Nat.zero_le _,fun i p hi=>by omega,Below.refl _ _⟩
   case round=>
    obtain⟨rfl,j,rfl,hj,hno,hbj⟩:=hrel
    rw[HM.out.2.2.2] at hj
    have hji0:(0:Int)≤(j:Int):=Int.natCast_nonneg _
    have hwAr:wA.heap.size≤wr.heap.size:=hbj.size
    by_cases hjl:j<xn
    ·have hji1:(j:Int)<(xn:Int):=by omega
     have hjl':j<x.ms.length:=by rw[HM.out.2.2.2];exact hjl
     have hq:=HM.out.2.1.at_ hjl'
     have hqj:x.ms[j]? = some x.ms[j]:=List.getElem?_eq_getElem hjl'
     generalize x.ms[j]=q at *
     obtain⟨mb,mh,ecs,⟨hmF,u0,u1,u2,u3,hmB,hpe⟩,hmr⟩:=hq
     obtain⟨zb,zo,rfl,hF1,hzc⟩:=rown_at HM.out.1 hjl ecs
     have hbw:Below w.heap.size w wr:=HA.out.1.trans (hbj.mono HA.out.1.size)
     have z0:=((bcell hbw).1 _ _ (HF.out _ hF1)).trans (hzc 0 _ rfl)
     rw[Nat.mul_one,Nat.add_zero] at z0
     have hzl:zb<w.heap.size:=HF.out _ hF1
     have hml:mb<w.heap.size:=HF.out _ hmF
     have Hq:=hide (And.intro hbw (And.intro hbj (And.intro hno (And.intro hqj (And.intro (hmB.below hbw hml) (And.intro (HA.out.2.1.below hbj HA.out.2.1.lt) (And.intro hmr hmF)))))))
     have hxl:xb<wr.heap.size:=Nat.lt_of_lt_of_le HA.out.2.1.lt hbj.size
     have hww:w.heap.size≤wr.heap.size:=hbw.size
     obtain⟨qo,qm⟩:=q
     have HPE:=hide (show ∀pe,qo=some pe→PEAt F w pe [.pointer u0,.pointer u1,.pointer u2,.pointer u3] from hpe)
     clear hbw hbj hno hqj hmB hpe hmF hF1 hzc ecs hmr
     obtain⟨wo,hwo⟩:∃W,W=wr:=⟨_,rfl⟩
     subst hwo
     go_upto_region 10 with fail
     go_cut [48] (fun s wx=>s = .bool (okM e (qo,qm))∧Below wo.heap.size wo wx)
     case first=>
      obtain⟨S,hS⟩:∃S:World→Prop,(fun W=>Bk W mb 285 #[.bool qo.isNone,.pointer u0,.pointer u1,.pointer u2,.pointer u3,.pointer (some ⟨mh,0,none⟩)]∧Bk W xb 214 #[.pointer p0,.pointer p1,.pointer p2,.pointer p3,.pointer (some ⟨gk,0,none⟩)])=S:=⟨_,rfl⟩
      have hS0:S wo.drew:=by rw[←hS];exact⟨Hq.out.2.2.2.2.1.drew,Hq.out.2.2.2.2.2.1.drew⟩
      cases qo with
      | none=>
       rw[show Option.isNone (none:Option E)=true from rfl] at hS
       refine wp_region_head 14 S (by rfl) (by kernel_rfl) ?_
       have hX:=hide (show ∀W:World,S W→Bk W mb 285 #[.bool true,.pointer u0,.pointer u1,.pointer u2,.pointer u3,.pointer (some ⟨mh,0,none⟩)]∧Bk W xb 214 #[.pointer p0,.pointer p1,.pointer p2,.pointer p3,.pointer (some ⟨gk,0,none⟩)] from fun W hSw=>by rw[←hS] at hSw;exact hSw)
       iterate 6
        refine HT.nx (v:=?_) rfl (by kernel_rfl) (fun _ _ _ h=>h) (Or.inl ⟨by rfl,?_⟩) ‹_› ?_
        rotate_left
        ·intro W hSw;have hSw:=hX.out W hSw;have ml:=hSw.1.lt;have xl:=hSw.2.lt;have y0:=hSw.1.cell 0;have y1:=hSw.1.cell 1;have y2:=hSw.1.cell 2;have y3:=hSw.1.cell 3;have y4:=hSw.1.cell 4;have x0:=hSw.2.cell 0;have x1:=hSw.2.cell 1;have x2:=hSw.2.cell 2;have x3:=hSw.2.cell 3;have x4:=hSw.2.cell 4;clear hSw;simp at y0 y1 y2 y3 y4 x0 x1 x2 x3 x4;go_simp;with_reducible rfl
        simp only[Act.put,zzA,zzZ,zzS]
       clear hX
       refine HT.take 6 (v:=undef) rfl (by kernel_rfl) (fun _ _ _ h=>h) (Or.inr ⟨by rfl,rfl⟩) ‹_› ?_
       simp only[Act.put,zzA,zzZ,zzS]
       refine HT.take 7 (v:=undef) rfl (by kernel_rfl) (fun _ _ _ h=>h) (Or.inr ⟨by rfl,rfl⟩) ‹_› ?_
       simp only[Act.put,zzA,zzZ,zzS]
       refine HT.take 8 (v:=undef) rfl (by kernel_rfl) (fun _ _ _ h=>h) (Or.inr ⟨by rfl,rfl⟩) ‹_› ?_
       simp only[Act.put,zzA,zzZ,zzS]
       refine HT.take 9 (v:=undef) rfl (by kernel_rfl) (fun _ _ _ h=>h) (Or.inr ⟨by rfl,rfl⟩) ‹_› ?_
       simp only[Act.put,zzA,zzZ,zzS]
       refine HT.take 10 (v:=undef) rfl (by kernel_rfl) (fun _ _ _ h=>h) (Or.inr ⟨by rfl,rfl⟩) ‹_› ?_
       simp only[Act.put,zzA,zzZ,zzS]
       refine HT.take 11 (v:=undef) rfl (by kernel_rfl) (fun _ _ _ h=>h) (Or.inr ⟨by rfl,rfl⟩) ‹_› ?_
       simp only[Act.put,zzA,zzZ,zzS]
       refine HT.take 12 (v:=undef) rfl (by kernel_rfl) (fun _ _ _ h=>h) (Or.inr ⟨by rfl,rfl⟩) ‹_› ?_
       simp only[Act.put,zzA,zzZ,zzS]
       refine HT.take 13 (v:=undef) rfl (by kernel_rfl) (fun _ _ _ h=>h) (Or.inr ⟨by rfl,rfl⟩) ‹_› ?_
       simp only[Act.put,zzA,zzZ,zzS]
       refine HT.done (by kernel_rfl) ?_
       simp only[List.drop_succ_cons,List.drop_zero]
       clear hS0 hS
       go_wp2_with fail
       go_meet
       exact⟨rfl,below_drew (Below.refl _ _)⟩
      | some pe=>
       rw[show Option.isNone (some pe)=false from rfl] at hS
       refine wp_region_head 14 S (by rfl) (by kernel_rfl) ?_
       have hX:=hide (show ∀W:World,S W→Bk W mb 285 #[.bool false,.pointer u0,.pointer u1,.pointer u2,.pointer u3,.pointer (some ⟨mh,0,none⟩)]∧Bk W xb 214 #[.pointer p0,.pointer p1,.pointer p2,.pointer p3,.pointer (some ⟨gk,0,none⟩)] from fun W hSw=>by rw[←hS] at hSw;exact hSw)
       iterate 13
        refine HT.nx (v:=?_) rfl (by kernel_rfl) (fun _ _ _ h=>h) (Or.inl ⟨by rfl,?_⟩) ‹_› ?_
        rotate_left
        ·intro W hSw;have hSw:=hX.out W hSw;have ml:=hSw.1.lt;have xl:=hSw.2.lt;have y0:=hSw.1.cell 0;have y1:=hSw.1.cell 1;have y2:=hSw.1.cell 2;have y3:=hSw.1.cell 3;have y4:=hSw.1.cell 4;have x0:=hSw.2.cell 0;have x1:=hSw.2.cell 1;have x2:=hSw.2.cell 2;have x3:=hSw.2.cell 3;have x4:=hSw.2.cell 4;clear hSw;simp at y0 y1 y2 y3 y4 x0 x1 x2 x3 x4;go_simp;with_reducible rfl
        simp only[Act.put,zzA,zzZ,zzS]
       clear hX
       refine HT.one 13 rfl (by kernel_rfl) (by rfl) (fun K hK=>?_)
       go_simp
       have hbd:Below w.heap.size w wo.drew:=below_drew Hq.out.1
       have hFo:∀b,F b→Old wo.drew b:=fun b hb=>Nat.lt_of_lt_of_le (HF.out b hb) hbd.size
       have HQ:=hide (peEquals_calls (w:=wo.drew) (((HPE.out pe rfl).keeps (Keeps.below hbd HF.out)).mono hFo) ((HXE.out.keeps (Keeps.below hbd HF.out)).mono hFo))
       refine HQ.out.mono ?_
       rintro en w3 ⟨rfl,hb3⟩
       have hb3':Below wo.heap.size wo w3:=below_drew' hb3
       have hS1:S w3:=by
        rw[←hS] at hS0 ⊢
        exact⟨hS0.1.below hb3 hS0.1.lt,hS0.2.below hb3 hS0.2.lt⟩
       clear hb3 HQ hbd hFo
       obtain⟨bv,hbv⟩:∃bv,E.eqv pe e=bv:=⟨_,rfl⟩
       rw[hbv]
       have Hbv:=hide (And.intro hbv hb3')
       clear hbv hb3'
       go_simp
       refine hK.out _ _ hS1 ?_
       clear hK K
       refine HT.done (by kernel_rfl) ?_
       simp only[List.drop_succ_cons,List.drop_zero]
       clear hS0 hS1 hS
       go_wp2_with fail
       go_meet
       exact⟨congrArg Value.bool Hbv.out.1.symm,Hbv.out.2⟩
     case rest=>
      obtain⟨rfl,hbc⟩:=hcut
      obtain⟨bv,hbv⟩:∃bv,okM e (qo,qm)=bv:=⟨_,rfl⟩
      rw[hbv]
      have Hc:=hide (And.intro hbv hbc)
      have hwoc:wo.heap.size≤wc.heap.size:=hbc.size
      clear hbv hbc
      cases bv
      ·have Hfin:=hide (show FIn wA x.ms e (.int .i64 ((j+1:Nat):Int)) wc from⟨j+1,rfl,by rw[HM.out.2.2.2];omega,fun i p hi hp=>by
        by_cases hij:i=j
        ·subst hij
         rw[Hq.out.2.2.2.1] at hp
         cases hp
         exact Hc.out.1
        ·exact Hq.out.2.2.1 i p (by omega) hp,Hq.out.2.1.trans (Hc.out.2.mono hwAr)⟩)
       go_wp2_with fail
       exact⟨⟨rfl,Hfin.out⟩,by simp[intOf];omega⟩
      ·have hhit:=hitM_at Hq.out.2.2.2.1 Hc.out.1 Hq.out.2.2.1
       have hbX:=Hq.out.2.1.trans (Hc.out.2.mono hwAr)
       have hbw:Below w.heap.size w wc:=HA.out.1.trans (hbX.mono HA.out.1.size)
       have hX:=HA.out.2.1.below hbX HA.out.2.1.lt
       have hM:=Hq.out.2.2.2.2.1.below Hc.out.2 (by omega)
       have x4:=hX.cell 4
       have y5:=hM.cell 5
       simp at x4 y5
       have hxlc:=hX.lt
       have HI:=hide (Hih.out fx Hs.out.2.2.2.2.2.1 (F:=F) (W:=wc.drew) (fun b hb=>Nat.lt_of_lt_of_le (HF.out b hb) hbw.size) ((Hs.out.2.2.2.2.1.keeps (Keeps.below hbw HF.out)).keeps fun _ _=>rfl) ((Hq.out.2.2.2.2.2.2.1.keeps (Keeps.below hbw HF.out)).keeps fun _ _=>rfl))
       have Hw:=hide (And.intro hbw (And.intro hX (And.intro (HA.out.2.2.trans (hbX.mono hwpA)) hhit)))
       have hwpc:wp.heap.size≤wc.heap.size:=(HA.out.2.2.trans (hbX.mono hwpA)).size
       clear hbX hbw hX hM hhit Hq Hc
       go_wp2_with fail
       go_still_tail 6,(by kernel_rfl)
       change wpList _ _ _ _ _ wc.drew
       go_wp2_with fail
       refine HI.out.mono ?_
       rintro en w5 ⟨g5,rfl,hset5,hb5⟩
       have hb5':Below wc.heap.size wc w5:=below_drew' hb5
       have hc5:wc.heap.size≤w5.heap.size:=hb5'.size
       have hset5':SetR (fun b=>F b∨Fr wc.heap.size w5 b) w5 g5 (filtS fx.2 qm):=hset5
       have hcnt:(filtS fx.2 qm).paths.length≤N38:=Nat.le_trans (filtS_count _ _) (HN.out fx Hs.out.2.2.2.2.2.1)
       have HZ:=hide (setSize_calls (hset5'.mono (G:=Old w5) fun b hb=>by
        rcases hb with h1 | h1
        ·have:=HF.out b h1;show b<w5.heap.size;omega
        ·exact h1.2) hcnt)
       have hf1:filt1 x fx=if 0<(filtS fx.2 qm).paths.length then [(e,filtS fx.2 qm)] else []:=by
        unfold filt1
        rw[He.out,Hw.out.2.2.2]
       have H5:=hide (And.intro hset5' (And.intro hb5' hf1))
       obtain⟨t,ht⟩:∃t,filtS fx.2 qm=t:=⟨_,rfl⟩
       rw[ht] at H5 HZ
       clear hset5 hset5' hb5 hb5' hcnt hf1 HI x4 y5 ht
       obtain⟨tn,htn⟩:∃tn,t.paths.length=tn:=⟨_,rfl⟩
       rw[htn] at H5 HZ
       clear htn
       go_wp2_with fail
       refine HZ.out.mono ?_
       rintro en w6 ⟨rfl,hb6⟩
       have h56:w5.heap.size≤w6.heap.size:=hb6.size
       have hb16:Below wp.heap.size wp w6:=(Hw.out.2.2.1.trans (H5.out.2.1.mono hwpc)).trans (hb6.mono (by omega))
       have hown6:=ownsRow_below Hs.out.1 hb16 (Nat.le_refl _)
       have hcel6:=aloof_below (Q:=KQ) (fun h k=>KQ.keeps h k) (fun h k=>KQ.mono h k) Hs.out.2.1 hb16
       have hset6:SetR (fun b=>F b∨Fr wc.heap.size w5 b) w6 g5 t:=H5.out.1.keeps (Keeps.below hb6 fun b hb=>by
        rcases hb with h1 | h1
        ·have:=HF.out b h1;omega
        ·exact h1.2)
       have hX6:=(Hw.out.2.1.below H5.out.2.1 Hw.out.2.1.lt).below hb6 (by omega)
       have x0:=hX6.cell 0
       have x1:=hX6.cell 1
       have x2:=hX6.cell 2
       have x3:=hX6.cell 3
       simp at x0 x1 x2 x3
       have hslt:=Hs.out.1.lt
       have H6:=hide (And.intro (Hs.out.2.2.1.trans (hb16.mono hwe)) (And.intro hown6 (And.intro hcel6 (And.intro hset6 hslt))))
       clear hb6 hb16 hown6 hcel6 hset6 hX6 hslt HZ
       by_cases htn0:0<tn
       ·have gtn:(0:Int)<(tn:Int):=by omega
        have hf1:=H5.out.2.2
        rw[if_pos htn0] at hf1
        have Hf1:=hide hf1
        clear hf1
        go_wp2_with (at_builtin;go_loud (refine wpList_append_row _ rfl (.tmp 59) (.tmp 64) 126 rfl w.heap.size 214 i9 _ 5 40 Tryz.underlying126 hi9 hz9 hs9 hb9 rfl (by omega) (.slice oA q oc) q us rfl (H6.out.2.1.alloc _) (fun _=>True) (some ⟨w6.heap.size,0,none⟩) 1 1 [.pointer p0,.pointer p1,.pointer p2,.pointer p3,.pointer (some ⟨g5,0,none⟩)] rfl (Row.of_bkp (Bk.new w6 214 ([.pointer p0,.pointer p1,.pointer p2,.pointer p3,.pointer (some ⟨g5,0,none⟩)]:List Value).toArray) rfl trivial) (by simp[Value.oneCell']) (by omega) (by omega) (by rw[World.size_alloc];omega) ?_))
        intro v8 w8 hown8 hg8 hat8
        have hbB:Below w6.heap.size w6 (w6.alloc (.cells #[.pointer p0,.pointer p1,.pointer p2,.pointer p3,.pointer (some ⟨g5,0,none⟩)] 214)):=(Below.refl _ _).alloc (Nat.le_refl _) _
        have hal:∀b,(F b∨Fr wc.heap.size w5 b)→Aloof (fun b=>F b∨w.heap.size≤b) (w6.alloc (.cells #[.pointer p0,.pointer p1,.pointer p2,.pointer p3,.pointer (some ⟨g5,0,none⟩)] 214)) (.slice oA q oc) b:=fun b hb=>by
         rcases hb with h1 | h1
         ·have h2:=HF.out b h1
          exact⟨.inl h1,by rw[World.size_alloc];omega,fun e=>by have:=(H6.out.2.2.2.2 b e).1;omega⟩
         ·have h2:wc.heap.size≤b:=h1.1
          have h3:b<w5.heap.size:=h1.2
          exact⟨.inr (by omega),by rw[World.size_alloc];omega,fun e=>by have:=(H6.out.2.2.2.2 b e).2;omega⟩
        have hlo:∀b,(F b∨Fr wc.heap.size w5 b)→b<w6.heap.size:=fun b hb=>by
         rcases hb with h1 | h1
         ·have h2:=HF.out b h1
          omega
         ·have h3:b<w5.heap.size:=h1.2
          omega
        have hbw6:Below w.heap.size w w6:=H6.out.1
        have hitem:KQ (Aloof (fun b=>F b∨w.heap.size≤b) (w6.alloc (.cells #[.pointer p0,.pointer p1,.pointer p2,.pointer p3,.pointer (some ⟨g5,0,none⟩)] 214)) (.slice oA q oc)) (w6.alloc (.cells #[.pointer p0,.pointer p1,.pointer p2,.pointer p3,.pointer (some ⟨g5,0,none⟩)] 214)) (e,t) [.pointer p0,.pointer p1,.pointer p2,.pointer p3,.pointer (some ⟨g5,0,none⟩)]:=
         KQ.mk_ (k:=(e,t)) (((HXE.out.keeps (Keeps.below hbw6 HF.out)).keeps (Keeps.below hbB fun b hb=>hlo b (.inl hb))).mono fun b hb=>hal b (.inl hb)) ((H6.out.2.2.2.1.keeps (Keeps.below hbB hlo)).mono hal)
        have hcel8:=aloof_step (Q:=KQ) (fun h k=>KQ.keeps h k) (fun h k=>KQ.mono h k) (s':=v8) (aloof_below (Q:=KQ) (fun h k=>KQ.keeps h k) (fun h k=>KQ.mono h k) H6.out.2.2.1 hbB) (Cells.one hitem rfl) hg8 (by rw[World.size_alloc];exact hat8)
        have hbw8:Below w.heap.size w w8:=(hbw6.trans (hbB.mono hbw6.size)).grown hg8 (by rw[World.size_alloc];have:=hbw6.size;omega) fun b e=>(H6.out.2.2.2.2 b e).1
        obtain⟨nA,nc,rfl,_,_⟩:=own_form hown8
        have Hx:=hide (show NFInv F w ks x (.slice nA (q+1) nc) (.int .i64 ((k+1:Nat):Int)) w8 from⟨k+1,us++[.pointer p0,.pointer p1,.pointer p2,.pointer p3,.pointer (some ⟨g5,0,none⟩)],rfl,by rw[Hn.out];omega,by rw[Hs.out.2.2.2.1,Hf1.out,List.length_append,Hs.out.2.2.2.2.2.2];exact hown8,by rw[Hs.out.2.2.2.1,Hf1.out];exact hcel8,hbw8⟩)
        clear hown8 hg8 hat8 hbB hal hlo hbw6 hitem hcel8 hbw8 H6 H5 Hw x0 x1 x2 x3
        go_wp2_with fail
        exact⟨Hx.out,by simp[intOf];omega⟩
       ·have gtn:¬(0:Int)<(tn:Int):=by omega
        have hf1:=H5.out.2.2
        rw[if_neg htn0] at hf1
        have Hx:=hide (show NFInv F w ks x (.slice oA q oc) (.int .i64 ((k+1:Nat):Int)) w6 from⟨k+1,us,rfl,by rw[Hn.out];omega,by rw[Hs.out.2.2.2.1,hf1,List.append_nil,Hs.out.2.2.2.2.2.2];exact H6.out.2.1,by rw[Hs.out.2.2.2.1,hf1,List.append_nil];exact H6.out.2.2.1,H6.out.1⟩)
        clear hf1 H6 H5 Hw x0 x1 x2 x3
        go_wp2_with fail
        exact⟨Hx.out,by simp[intOf];omega⟩
    ·have hji1:¬(j:Int)<(xn:Int):=by omega
     have hbp:Below wp.heap.size wp wr:=HA.out.2.2.trans (hbj.mono hwpA)
     have hnone:hitM e x.ms=none:=hitM_none fun i p hp=>hno i p (by have:=(List.getElem?_eq_some_iff.1 hp).1;have:=HM.out.2.2.2;omega) hp
     have hf1:filt1 x fx=[]:=by
      unfold filt1
      rw[He.out,hnone]
     have Hx:=hide (show NFInv F w ks x (.slice oA q oc) (.int .i64 ((k+1:Nat):Int)) wr from⟨k+1,us,rfl,by rw[Hn.out];omega,by rw[Hs.out.2.2.2.1,hf1,List.append_nil,Hs.out.2.2.2.2.2.2];exact ownsRow_below Hs.out.1 hbp (Nat.le_refl _),by rw[Hs.out.2.2.2.1,hf1,List.append_nil];exact aloof_below (Q:=KQ) (fun h k=>KQ.keeps h k) (fun h k=>KQ.mono h k) Hs.out.2.1 hbp,Hs.out.2.2.1.trans (hbp.mono hwe)⟩)
     clear hbp hnone hf1 hno hbj
     go_wp2_with fail
     exact⟨Hx.out,by simp[intOf];omega⟩
  ·have hke:k=n:=by omega
   subst hke
   have hki1:¬((k:Nat):Int)<(k:Int):=by omega
   have hLk:filtK ks x=L:=by rw[←hL,List.take_of_length_le (by rw[Hn.out];exact Nat.le_refl _)]
   have hbx:Below wr.heap.size wr (wr.alloc (.cells #[.slice oA q oc] 128)):=(Below.refl _ _).alloc (Nat.le_refl _) _
   have hbk:=Bk.new wr 128 #[.slice oA q oc]
   have hlo:=hown.lt
   have hfin:NMPost F w (filtK ks x) (.returned (.pointer (some ⟨wr.heap.size,0,none⟩))) (wr.alloc (.cells #[.slice oA q oc] 128)):=by
    rw[hLk]
    refine⟨wr.heap.size,oA,oc,us,rfl,hb.size,by rw[hq];exact hbk,by rw[hq];exact hoc1,hoc2,by rw[hq];exact Row.of_own (hown.alloc _) fun b hb=>⟨(hlo b hb).1,by rw[World.size_alloc];have:=(hlo b hb).2;omega⟩,hcel.mono fun _ _ h=>KQ.mono (KQ.keeps h (Keeps.below hbx fun b hb=>hb.2.1)) fun b hb=>hb.1.imp id fun h1=>⟨h1,by rw[World.size_alloc];have:=hb.2.1;omega⟩,hb.trans (hbx.mono hb.size)⟩
   have Hf:=hide hfin
   clear hfin hbx hbk hlo hown hcel hb hL hLk hq
   go_wp2
   go_ret
   exact Hf.out
end Go.Proofs.YtbicoknghdgahaaGreat
