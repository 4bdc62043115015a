import Derived.Test.YtbicoknghdgahaaGreatRA08
set_option linter.unusedVariables false
set_option linter.unusedSimpArgs false
namespace Go.Proofs.YtbicoknghdgahaaGreat
open Go.RowKit
attribute [local go_sem] run_store_float
def RKInv (pr:E × St→Bool) (f:E × St→E × St→Option (E × St)) (F:Nat→Prop) (w:World) (m m':List (E × St)) (s6 s7:Value) (W:World):Prop:=
 ∃(i j:Nat) (done:List (E × St)) (s:Value) (us:List Value),s6 = .int .i64 (i:Int)∧s7 = .int .i64 (j:Int)∧i≤m.length∧j≤m'.length∧done.length≤i+j∧(mrg kcmp true false f m m').filter pr=done++(mrg kcmp true false f (m.drop i) (m'.drop j)).filter pr ∧
  Mg 5 128 214 KQ F w done s W us
def RKEnd (pr:E × St→Bool) (F:Nat→Prop) (w:World) (done l:List (E × St)) (s:Value) (W:World):Prop:=
 ∃(k:Nat) (s':Value) (us:List Value),s = .int .i64 (k:Int)∧k≤l.length∧Mg 5 128 214 KQ F w (done++(l.take k).filter pr) s' W us
theorem rec_none {pr:E × St→Bool} {u:St→St→St} {a b:E × St} (h:∀t,pr (a.1,t) = !true):List.filter pr (SOp.less.kid u a b).toList=[]:=by
 unfold SOp.kid
 split <;> simp[h]
set_option maxRecDepth 100000 in
set_option maxHeartbeats 16000000 in
theorem nmRec_calls {u:St→St→St} {P P':St→Prop} (IH:∀{F:Nat→Prop} {W:World} {ga gb:Nat} {s t:St},(∀b,F b→b<W.heap.size)→SetR F W ga s→SetR F W gb t→P s→P' t→Calls Tryz.prog 109 #[.pointer (some ⟨ga,0,none⟩),.pointer (some ⟨gb,0,none⟩)] W (GivesF F (u s t) W))
  {F:Nat→Prop} {w:World} {g g':Nat} {m m':List (E × St)} {q:List E} {MA MB MC:Option Addr} {mc md me:Nat} {xs ys zs:List Value} (hP:∀k ∈ m,P k.2) (hP':∀k ∈ m',P' k.2) (hF:∀b,F b→b<w.heap.size) (hg:g<w.heap.size) (hg':g'<w.heap.size) (m0:w.cell? ⟨g,1,none⟩=some (.slice MA m.length mc)) (n0:w.cell? ⟨g',1,none⟩=some (.slice MB m'.length md)) (n1:w.cell? ⟨g',0,none⟩=some (.slice MC q.length me))
  (hmc:m.length≤mc) (hmd:m'.length≤md) (hr:Row F w 5 MA m.length xs) (hr':Row F w 5 MB m'.length ys) (hx:Cells 5 (KQ F w) m xs) (hy:Cells 5 (KQ F w) m' ys) (h47:(m.length+m'.length)*40≤R47)
  (hq47:q.length*32≤R47) (hrq:Row F w 4 MC q.length zs) (hzq:Cells 4 (PEAt F w) q zs) (hqo:POk q) (hqs:SortC E.cmp q) (hmo:∀k ∈ m,k.1.Ok) :
  Calls Tryz.prog 167 #[.pointer (some ⟨g,1,none⟩),.pointer (some ⟨g',0,none⟩)] w (fun en w'=>en = .returned (.pointer (some ⟨w.heap.size,0,none⟩))∧∃s us,Mg 5 128 214 KQ F w (recK u q m m') s w' us):=by
 have h47':(m.length+m'.length)*40≤140737488351232:=h47
 obtain⟨i9,hi9,hz9,hs9,hb9⟩:=info_parts node_info
 obtain⟨M,hM⟩:∃M,m.length=M:=⟨_,rfl⟩
 obtain⟨M1,hM1⟩:∃M1,m'.length=M1:=⟨_,rfl⟩
 have HM:=hide (And.intro hM hM1)
 rw[hM] at m0 hmc hr h47'
 rw[hM1] at n0 hmd hr' h47'
 have HG:=hide (And.intro hg (And.intro hg' (And.intro m0 (And.intro n0 (And.intro hr (And.intro hr' (And.intro hx hy)))))))
 have HF:=hide hF
 have HH0:=hide fun(W:World) (hb:Below w.heap.size w W) (e:E) (t0 t1 t2 t3:Option Addr) (he:e.Ok) (hpe:PEAt (Old W) W e [.pointer t0,.pointer t1,.pointer t2,.pointer t3])=>esHas_calls (w:=W) (g:=g') (Nat.lt_of_lt_of_le hg' hb.size) (((bcell hb).1 _ _ hg').trans n1) hq47 ((hrq.keeps (Keeps.below hb hF)).mono fun b hb'=>Nat.lt_of_lt_of_le (hF b hb') hb.size) (hzq.mono fun _ _ h=>(h.keeps (Keeps.below hb hF)).mono fun b hb'=>Nat.lt_of_lt_of_le (hF b hb') hb.size) hqo hqs he hpe
 unfold recK
 obtain⟨pr,hpr⟩:∃pr:E × St→Bool,(fun k=>!hasC E.cmp k.1 q)=pr:=⟨_,rfl⟩
 have HPR:=hide (show ∀k,pr k = !hasC E.cmp k.1 q from fun k=>by rw[←hpr])
 rw[hpr]
 obtain⟨R,hR⟩:∃R,(mrg kcmp true false (SOp.less.kid u) m m').filter pr=R:=⟨_,rfl⟩
 rw[hR]
 have HRR:=hide hR
 have HP:=hide (And.intro hP (And.intro hP' hmo))
 clear hr hr' hx hy h47 hM hM1 hR hF hP hP' hrq hzq hqo hqs hmo hq47 n1 hpr
 have hb0:Below w.heap.size w (w.alloc (.cells #[.slice none 0 0] 128)):=(Below.refl _ _).alloc (Nat.le_refl _) _
 have hm0:Mg 5 128 214 KQ F w ([]:List (E × St)) (.slice none 0 0) (w.alloc (.cells #[.slice none 0 0] 128)) []:=Mg.start hb0 (Bk.new _ _ _)
 have Hm0:=hide hm0
 clear hm0 hb0
 go_enter Tryz.func167,Tryz.ntmps167
 go_wp2_with fail
 go_loopw [6,7] (fun s6 s7 W=>RKInv pr (SOp.less.kid u) F w m m' s6 s7 W) (fun s6 s7 _=>(m.length-(intOf s6).toNat)+(m'.length-(intOf s7).toNat))
 case atStart=>exact⟨0,0,[],_,[],rfl,rfl,Nat.zero_le _,Nat.zero_le _,Nat.le_refl _,rfl,Hm0.out⟩
 case round=>
  clear m0 n0
  obtain⟨i,j,done,s,us,rfl,rfl,hi,hj,hdl,heq,hm⟩:=hrel
  rw[HM.out.1] at hi
  rw[HM.out.2] at hj
  have hki0:(0:Int)≤(i:Int):=Int.natCast_nonneg _
  have hkj0:(0:Int)≤(j:Int):=Int.natCast_nonneg _
  obtain⟨n,hn⟩:∃n,done.length=n:=⟨_,rfl⟩
  have hown:=hm.own
  rw[hn] at hdl hown
  obtain⟨oA,oc,rfl,hoc1,hoc2⟩:=own_form hown
  have Hn:=hide hn
  have Hm:=hide hm
  clear hn hown hm
  obtain⟨wo,hwo⟩:∃W,W=wr:=⟨_,rfl⟩
  subst hwo
  have ec:=(bcell Hm.out.below).1
  have s0:=(ec _ 1 HG.out.1).trans HG.out.2.2.1
  have t0:=(ec _ 1 HG.out.2.1).trans HG.out.2.2.2.1
  have o0:=Hm.out.bk.cell 0
  have ol:=Hm.out.bk.lt
  have hwe:w.heap.size<wo.heap.size:=ol
  simp at o0
  by_cases hi1:i<M
  ·by_cases hj1:j<M1
   ·have hki1:(i:Int)<(M:Int):=by omega
    have hkj1:(j:Int)<(M1:Int):=by omega
    have hx':=HG.out.2.2.2.2.2.2.1.at_ (show i<m.length by rw[HM.out.1];exact hi1)
    have hy':=HG.out.2.2.2.2.2.2.2.at_ (show j<m'.length by rw[HM.out.2];exact hj1)
    rw[mrg_drop (show i<m.length by rw[HM.out.1];exact hi1) (show j<m'.length by rw[HM.out.2];exact hj1)] at heq
    have hPa:=HP.out.1 _ (List.getElem_mem (show i<m.length by rw[HM.out.1];exact hi1))
    have hPb:=HP.out.2.1 _ (List.getElem_mem (show j<m'.length by rw[HM.out.2];exact hj1))
    have hao:=HP.out.2.2 _ (List.getElem_mem (show i<m.length by rw[HM.out.1];exact hi1))
    generalize m[i]'(by rw[HM.out.1];exact hi1)=a at *
    generalize m'[j]'(by rw[HM.out.2];exact hj1)=b at *
    generalize hcs:(xs.drop (i*5)).take 5=fcs at hx'
    generalize hds:(ys.drop (j*5)).take 5=gcs at hy'
    have hxk:=hx'
    have hyk:=hy'
    obtain⟨p0,p1,p2,p3,pg,rfl,hxe,hxs⟩:=hx'.form
    obtain⟨q0,q1,q2,q3,qg,rfl,hye,hys⟩:=hy'.form
    obtain⟨rb,ro,rfl,hF1,hc⟩:=rown_at HG.out.2.2.2.2.1 hi1 hcs
    obtain⟨sb,so,rfl,hF2,hd⟩:=rown_at HG.out.2.2.2.2.2.1 hj1 hds
    have HR:=hide (And.intro (HF.out _ hF1) (And.intro (HF.out _ hF2) (And.intro hc hd)))
    have HLT:=hide (show g<w.heap.size∧g'<w.heap.size∧rb<w.heap.size∧sb<w.heap.size from⟨HG.out.1,HG.out.2.1,HF.out _ hF1,HF.out _ hF2⟩)
    have hrb:rb<w.heap.size:=HF.out _ hF1
    have hsb:sb<w.heap.size:=HF.out _ hF2
    clear hcs hds hc hd hF1 hF2
    have sc0:=(ec _ _ HR.out.1).trans (HR.out.2.2.1 0 _ rfl)
    have sc1:=(ec _ _ HR.out.1).trans (HR.out.2.2.1 1 _ rfl)
    have sc2:=(ec _ _ HR.out.1).trans (HR.out.2.2.1 2 _ rfl)
    have sc3:=(ec _ _ HR.out.1).trans (HR.out.2.2.1 3 _ rfl)
    have sc4:=(ec _ _ HR.out.1).trans (HR.out.2.2.1 4 _ rfl)
    have tc0:=(ec _ _ HR.out.2.1).trans (HR.out.2.2.2 0 _ rfl)
    have tc1:=(ec _ _ HR.out.2.1).trans (HR.out.2.2.2 1 _ rfl)
    have tc2:=(ec _ _ HR.out.2.1).trans (HR.out.2.2.2 2 _ rfl)
    have tc3:=(ec _ _ HR.out.2.1).trans (HR.out.2.2.2 3 _ rfl)
    have tc4:=(ec _ _ HR.out.2.1).trans (HR.out.2.2.2 4 _ rfl)
    rw[Nat.add_zero] at sc0 tc0
    obtain⟨v,hv⟩:∃v,decide (E.cmp a.1 b.1<0)=v:=⟨_,rfl⟩
    obtain⟨v2,hv2⟩:∃v2,decide (E.cmp b.1 a.1<0)=v2:=⟨_,rfl⟩
    obtain⟨pv,hpv⟩:∃pv,hasC E.cmp a.1 q=pv:=⟨_,rfl⟩
    have HL:=hide fun(W:World) (hb:Below w.heap.size w W)=>less_calls ((hxe.mono HF.out:PEAt (Old w) w _ _).at_ hb) ((hye.mono HF.out:PEAt (Old w) w _ _).at_ hb)
    have HL2:=hide fun(W:World) (hb:Below w.heap.size w W)=>less_calls ((hye.mono HF.out:PEAt (Old w) w _ _).at_ hb) ((hxe.mono HF.out:PEAt (Old w) w _ _).at_ hb)
    have HH:=hide fun(W:World) (hb:Below w.heap.size w W)=>HH0.out W hb _ _ _ _ _ hao ((hxe.mono HF.out:PEAt (Old w) w _ _).at_ hb)
    have HU:=hide fun(W:World) (hb:Below w.heap.size w W)=>IH (F:=F) (W:=W) (fun b hb'=>Nat.lt_of_lt_of_le (HF.out b hb') hb.size) (hxs.keeps (Keeps.below hb HF.out)) (hys.keeps (Keeps.below hb HF.out)) hPa hPb
    rw[hv] at HL
    rw[hv2] at HL2
    rw[hpv] at HH
    have Hv:=hide (And.intro hv (And.intro hv2 (show ∀t,pr (a.1,t) = !pv from fun t=>by rw[HPR.out];show(!hasC E.cmp a.1 q)=_;rw[hpv])))
    have Heq:=hide heq
    have HK:=hide (And.intro hxk hyk)
    have HE:=hide hxe
    clear hv hv2 hpv heq ec hx' hy' hxk hyk hxe hye hxs hys hPa hPb hao
    go_wp2_with fail
    go_still_tail 17,(by kernel_rfl)
    change wpList _ _ _ _ _ wo.drew
    go_wp2_with fail
    refine(HL.out wo.drew (below_drew Hm.out.below)).mono ?_
    rintro en w5 ⟨rfl,hb5⟩
    have Hm5:=hide (Hm.out.at_ (fun h k=>h.keeps k) (fun h k=>h.mono k) (below_drew' hb5))
    clear hb5 o0 ol s0 t0 sc0 sc1 sc2 sc3 sc4 tc0 tc1 tc2 tc3 tc4 HL hwe Hm
    have Hm:=Hm5
    clear Hm5
    have ec:=(bcell Hm.out.below).1
    have s0:=(ec _ 1 HG.out.1).trans HG.out.2.2.1
    have t0:=(ec _ 1 HG.out.2.1).trans HG.out.2.2.2.1
    have o0:=Hm.out.bk.cell 0
    have ol:=Hm.out.bk.lt
    have hwe:w.heap.size<w5.heap.size:=ol
    simp at o0
    have sc0:=(ec _ _ HR.out.1).trans (HR.out.2.2.1 0 _ rfl)
    have sc1:=(ec _ _ HR.out.1).trans (HR.out.2.2.1 1 _ rfl)
    have sc2:=(ec _ _ HR.out.1).trans (HR.out.2.2.1 2 _ rfl)
    have sc3:=(ec _ _ HR.out.1).trans (HR.out.2.2.1 3 _ rfl)
    have sc4:=(ec _ _ HR.out.1).trans (HR.out.2.2.1 4 _ rfl)
    have tc0:=(ec _ _ HR.out.2.1).trans (HR.out.2.2.2 0 _ rfl)
    have tc1:=(ec _ _ HR.out.2.1).trans (HR.out.2.2.2 1 _ rfl)
    have tc2:=(ec _ _ HR.out.2.1).trans (HR.out.2.2.2 2 _ rfl)
    have tc3:=(ec _ _ HR.out.2.1).trans (HR.out.2.2.2 3 _ rfl)
    have tc4:=(ec _ _ HR.out.2.1).trans (HR.out.2.2.2 4 _ rfl)
    rw[Nat.add_zero] at sc0 tc0
    clear ec
    generalize w5=w1 at *
    cases v
    ·skip
     go_wp2_with fail
     go_still_tail 17,(by kernel_rfl)
     change wpList _ _ _ _ _ w1.drew
     go_wp2_with fail
     refine(HL2.out w1.drew (below_drew Hm.out.below)).mono ?_
     rintro en w5 ⟨rfl,hb5⟩
     have Hm5:=hide (Hm.out.at_ (fun h k=>h.keeps k) (fun h k=>h.mono k) (below_drew' hb5))
     clear hb5 o0 ol s0 t0 sc0 sc1 sc2 sc3 sc4 tc0 tc1 tc2 tc3 tc4 HL2 hwe Hm
     have Hm:=Hm5
     clear Hm5
     generalize w5=w6 at *
     cases v2
     ·skip
      have ec:=(bcell Hm.out.below).1
      have s0:=(ec _ 1 HG.out.1).trans HG.out.2.2.1
      have t0:=(ec _ 1 HG.out.2.1).trans HG.out.2.2.2.1
      have o0:=Hm.out.bk.cell 0
      have ol:=Hm.out.bk.lt
      have hwe:w.heap.size<w6.heap.size:=ol
      simp at o0
      have sc0:=(ec _ _ HR.out.1).trans (HR.out.2.2.1 0 _ rfl)
      have sc1:=(ec _ _ HR.out.1).trans (HR.out.2.2.1 1 _ rfl)
      have sc2:=(ec _ _ HR.out.1).trans (HR.out.2.2.1 2 _ rfl)
      have sc3:=(ec _ _ HR.out.1).trans (HR.out.2.2.1 3 _ rfl)
      have sc4:=(ec _ _ HR.out.1).trans (HR.out.2.2.1 4 _ rfl)
      have tc0:=(ec _ _ HR.out.2.1).trans (HR.out.2.2.2 0 _ rfl)
      have tc1:=(ec _ _ HR.out.2.1).trans (HR.out.2.2.2 1 _ rfl)
      have tc2:=(ec _ _ HR.out.2.1).trans (HR.out.2.2.2 2 _ rfl)
      have tc3:=(ec _ _ HR.out.2.1).trans (HR.out.2.2.2 3 _ rfl)
      have tc4:=(ec _ _ HR.out.2.1).trans (HR.out.2.2.2 4 _ rfl)
      rw[Nat.add_zero] at sc0 tc0
      clear ec
      go_wp2_with fail
      go_still_tail 11,(by kernel_rfl)
      change wpList _ _ _ _ _ w6.drew
      go_wp2_with fail
      refine(HH.out w6.drew (below_drew Hm.out.below)).mono ?_
      rintro en w5 ⟨rfl,hb5⟩
      have Hm5:=hide (Hm.out.at_ (fun h k=>h.keeps k) (fun h k=>h.mono k) (below_drew' hb5))
      clear hb5 o0 ol s0 t0 sc0 sc1 sc2 sc3 sc4 tc0 tc1 tc2 tc3 tc4 HH hwe Hm
      have Hm:=Hm5
      clear Hm5
      generalize w5=w7 at *
      cases pv
      ·skip
       have ec:=(bcell Hm.out.below).1
       have s0:=(ec _ 1 HG.out.1).trans HG.out.2.2.1
       have t0:=(ec _ 1 HG.out.2.1).trans HG.out.2.2.2.1
       have o0:=Hm.out.bk.cell 0
       have ol:=Hm.out.bk.lt
       have hwe:w.heap.size<w7.heap.size:=ol
       simp at o0
       have sc0:=(ec _ _ HR.out.1).trans (HR.out.2.2.1 0 _ rfl)
       have sc1:=(ec _ _ HR.out.1).trans (HR.out.2.2.1 1 _ rfl)
       have sc2:=(ec _ _ HR.out.1).trans (HR.out.2.2.1 2 _ rfl)
       have sc3:=(ec _ _ HR.out.1).trans (HR.out.2.2.1 3 _ rfl)
       have sc4:=(ec _ _ HR.out.1).trans (HR.out.2.2.1 4 _ rfl)
       have tc0:=(ec _ _ HR.out.2.1).trans (HR.out.2.2.2 0 _ rfl)
       have tc1:=(ec _ _ HR.out.2.1).trans (HR.out.2.2.2 1 _ rfl)
       have tc2:=(ec _ _ HR.out.2.1).trans (HR.out.2.2.2 2 _ rfl)
       have tc3:=(ec _ _ HR.out.2.1).trans (HR.out.2.2.2 3 _ rfl)
       have tc4:=(ec _ _ HR.out.2.1).trans (HR.out.2.2.2 4 _ rfl)
       rw[Nat.add_zero] at sc0 tc0
       clear ec
       go_wp2_with fail
       go_still_tail 17,(by kernel_rfl)
       change wpList _ _ _ _ _ w7.drew
       go_wp2_with fail
       refine(HU.out w7.drew (below_drew Hm.out.below)).mono ?_
       rintro en w9 ⟨g5,rfl,hset5,hb5⟩
       have hb5':Below w7.heap.size w7 w9:=below_drew' hb5
       have Hset:=hide (show SetR (Apart F w (.slice oA n oc) w9) w9 g5 (u a.2 b.2) from hset5.mono fun b hb=>Apart.new Hm.out hb5' b hb HF.out)
       have Hm7:=hide (Hm.out.at_ (fun h k=>h.keeps k) (fun h k=>h.mono k) hb5')
       have HEm:=hide (setEmpty_calls (hset5.mono (G:=Old w9) fun b hb=>by
        rcases hb with h1 | h1
        ·have:=HF.out b h1;have h2:=Hm.out.below.size;have h3:=hb5'.size;show b<w9.heap.size;omega
        ·exact h1.2))
       obtain⟨v3,hv3⟩:∃v3,(u a.2 b.2).emp=v3:=⟨_,rfl⟩
       rw[hv3] at HEm
       have Hv3:=hide hv3
       clear hset5 hb5 hb5' hv3 Hm HU o0 ol s0 t0 sc0 sc1 sc2 sc3 sc4 tc0 tc1 tc2 tc3 tc4 hwe
       go_wp2_with fail
       refine HEm.out.mono ?_
       rintro en w8 ⟨rfl,hb8⟩
       have Hset8:=hide (show SetR (Apart F w (.slice oA n oc) w8) w8 g5 (u a.2 b.2) from(Hset.out.keeps (Keeps.below hb8 fun b hb=>hb.2.1)).mono fun b hb=>hb.below hb8)
       have Hm:=hide (Hm7.out.at_ (fun h k=>h.keeps k) (fun h k=>h.mono k) hb8)
       clear hb8 HEm Hm7 Hset
       cases v3
       ·skip
        have ec:=(bcell Hm.out.below).1
        have s0:=(ec _ 1 HG.out.1).trans HG.out.2.2.1
        have t0:=(ec _ 1 HG.out.2.1).trans HG.out.2.2.2.1
        have o0:=Hm.out.bk.cell 0
        have ol:=Hm.out.bk.lt
        have hwe:w.heap.size<w8.heap.size:=ol
        simp at o0
        have sc0:=(ec _ _ HR.out.1).trans (HR.out.2.2.1 0 _ rfl)
        have sc1:=(ec _ _ HR.out.1).trans (HR.out.2.2.1 1 _ rfl)
        have sc2:=(ec _ _ HR.out.1).trans (HR.out.2.2.1 2 _ rfl)
        have sc3:=(ec _ _ HR.out.1).trans (HR.out.2.2.1 3 _ rfl)
        have sc4:=(ec _ _ HR.out.1).trans (HR.out.2.2.1 4 _ rfl)
        have tc0:=(ec _ _ HR.out.2.1).trans (HR.out.2.2.2 0 _ rfl)
        have tc1:=(ec _ _ HR.out.2.1).trans (HR.out.2.2.2 1 _ rfl)
        have tc2:=(ec _ _ HR.out.2.1).trans (HR.out.2.2.2 2 _ rfl)
        have tc3:=(ec _ _ HR.out.2.1).trans (HR.out.2.2.2 3 _ rfl)
        have tc4:=(ec _ _ HR.out.2.1).trans (HR.out.2.2.2 4 _ rfl)
        rw[Nat.add_zero] at sc0 tc0
        clear ec
        go_wp2_with fail
        obtain⟨S,hS⟩:∃S,MKS w.heap.size g g' rb (ro+i*5) sb (so+j*5) (.slice oA n oc) (.slice (some ⟨rb,ro,none⟩) M mc) (.slice (some ⟨sb,so,none⟩) M1 md) (.pointer p0) (.pointer p1) (.pointer p2) (.pointer p3) (.pointer (some ⟨pg,0,none⟩)) (.pointer q0) (.pointer q1) (.pointer q2) (.pointer q3) (.pointer (some ⟨qg,0,none⟩))=S:=⟨_,rfl⟩
        have hS0:S w8.drew:=by rw[←hS];exact⟨⟨o0,s0,t0⟩,⟨sc0,sc1,sc2,sc3,sc4⟩,tc0,tc1,tc2,tc3,tc4⟩
        refine wp_region_head 17 S (by rfl) (by kernel_rfl) ?_
        have hX:=hide (show ∀W:World,S W→MKS w.heap.size g g' rb (ro+i*5) sb (so+j*5) (.slice oA n oc) (.slice (some ⟨rb,ro,none⟩) M mc) (.slice (some ⟨sb,so,none⟩) M1 md) (.pointer p0) (.pointer p1) (.pointer p2) (.pointer p3) (.pointer (some ⟨pg,0,none⟩)) (.pointer q0) (.pointer q1) (.pointer q2) (.pointer q3) (.pointer (some ⟨qg,0,none⟩)) W from fun W hSw=>by rw[←hS] at hSw;exact hSw)
        iterate 15
         refine HT.nx (v:=?_) rfl (by kernel_rfl) (fun _ _ _ h=>h) (Or.inl ⟨by rfl,?_⟩) ‹_› ?_
         rotate_left
         ·intro W hSw;obtain⟨⟨s0,s1,s2⟩,⟨c0,c1,c2,c3,c4⟩,d0,d1,d2,d3,d4⟩:=hX.out W hSw;go_simp;with_reducible rfl
         simp only[Act.put,zzA,zzZ,zzS]
        clear hX
        refine HT.one 15 rfl (by kernel_rfl) (by rfl) (fun K hK=>?_)
        go_simp
        have hbA:Below w8.heap.size w8 (w8.drew.alloc (.cells #[.pointer p0,.pointer p1,.pointer p2,.pointer p3,.pointer (some ⟨g5,0,none⟩)] 214)):=(below_drew (Below.refl _ _)).alloc (Nat.le_refl _) _
        have hS1:S (w8.drew.alloc (.cells #[.pointer p0,.pointer p1,.pointer p2,.pointer p3,.pointer (some ⟨g5,0,none⟩)] 214)):=by
         rw[←hS] at hS0 ⊢
         exact hS0.to HLT.out fun b k hb=>(bcell hbA).1 _ _ (by omega)
        refine hK.out _ _ hS1 ?_
        clear hK K
        refine HT.one 16 rfl (by kernel_rfl) (by rfl) (fun K hK=>?_)
        have hmA:=Hm.out.at_ (fun h k=>h.keeps k) (fun h k=>h.mono k) hbA
        refine wp_append_row _ (.tmp 146) (.tmp 157) 126 rfl (w.heap.size+1) 214 i9 _ 5 40 Tryz.underlying126 hi9 hz9 hs9 hb9 rfl (by omega) (.slice oA n oc) n us rfl (by have q:=hmA.own;rw[Hn.out] at q;exact q) (fun _=>True) (some ⟨w8.heap.size,0,none⟩) 1 1 [.pointer p0,.pointer p1,.pointer p2,.pointer p3,.pointer (some ⟨g5,0,none⟩)] rfl (Row.of_bkp (Bk.new w8.drew 214 ([.pointer p0,.pointer p1,.pointer p2,.pointer p3,.pointer (some ⟨g5,0,none⟩)]:List Value).toArray) rfl trivial) (by simp[Value.oneCell']) (by omega) (by omega) (by show w.heap.size+1≤(w8.alloc (.cells #[.pointer p0,.pointer p1,.pointer p2,.pointer p3,.pointer (some ⟨g5,0,none⟩)] 214)).heap.size;rw[World.size_alloc];omega) ?_
        intro v' w3 hown3 hg3 hat3
        have hlo3:=hmA.own.lt
        have hstep:=hmA.step HF.out (add:=[(a.1,u a.2 b.2)]) (fun h k=>h.keeps k) (fun h k=>h.mono k) (by rw[Hn.out];exact hown3) hg3 hat3 (Cells.one (KQ.mk_ (k:=(a.1,u a.2 b.2)) ((HE.out.keeps (Keeps.below hmA.below HF.out)).mono (Apart.old HF.out hmA)) ((Hset8.out.keeps (Keeps.below hbA fun b hb=>hb.2.1)).mono fun b hb=>hb.below hbA)) rfl)
        have hsz3:w8.heap.size+1≤w3.heap.size:=by have h1:(w8.alloc (.cells #[.pointer p0,.pointer p1,.pointer p2,.pointer p3,.pointer (some ⟨g5,0,none⟩)] 214)).heap.size≤w3.heap.size:=hg3.size;rw[World.size_alloc] at h1;exact h1
        have hne:∀b,b≤w.heap.size→some b≠(Value.slice oA n oc).ownBlock:=fun b hb e=>by have:=(hlo3 b e.symm).1;omega
        have hS3:S w3:=by
         rw[←hS] at hS1 ⊢
         exact hS1.to HLT.out fun b k hb=>(gcell hg3).1 _ _ (by show b<(w8.alloc (.cells #[.pointer p0,.pointer p1,.pointer p2,.pointer p3,.pointer (some ⟨g5,0,none⟩)] 214)).heap.size;rw[World.size_alloc];omega) (hne _ hb)
        go_simp
        refine hK.out _ _ hS3 ?_
        clear hK K
        refine HT.done (by kernel_rfl) ?_
        simp only[List.drop_succ_cons,List.drop_zero]
        have hO3:Bk w3 w.heap.size 128 #[.slice oA n oc]:=hmA.bk.grown hg3 (hne _ (Nat.le_refl _))
        have z0:=hO3.cell 0
        have z1:=hO3.free 0
        simp at z0
        obtain⟨nA,nc,rfl,_,_⟩:=own_form hown3
        have Hs:=hide (And.intro hstep hsz3)
        clear hS0 hS1 hS3 hS hbA hmA hown3 hg3 hat3 hlo3 hstep hsz3 hne hO3
        clear o0 s0 t0 sc0 sc1 sc2 sc3 sc4 tc0 tc1 tc2 tc3 tc4
        go_wp2_with fail
        exact⟨⟨i+1,j+1,done++[(a.1,u a.2 b.2)],_,_,by go_num,by go_num,by rw[HM.out.1];omega,by rw[HM.out.2];omega,by rw[List.length_append,Hn.out];show n+1≤_;omega,by rw[Heq.out,if_neg (show ¬kcmp a b<0 by simpa [kcmp] using Hv.out.1),if_neg (show ¬kcmp b a<0 by simpa [kcmp] using Hv.out.2.1)];simp[SOp.kid,SOp.less,Hv3.out,List.filter_cons,Hv.out.2.2],Hs.out.1⟩,by simp[intOf];have:=HM.out.1;have:=HM.out.2;omega⟩
       ·go_wp2_with fail
        exact⟨⟨i+1,j+1,done,_,_,by go_num,by go_num,by rw[HM.out.1];omega,by rw[HM.out.2];omega,by rw[Hn.out];omega,by rw[Heq.out,if_neg (show ¬kcmp a b<0 by simpa [kcmp] using Hv.out.1),if_neg (show ¬kcmp b a<0 by simpa [kcmp] using Hv.out.2.1)];simp[SOp.kid,SOp.less,Hv3.out],Hm.out⟩,by simp[intOf];have:=HM.out.1;have:=HM.out.2;omega⟩
      ·go_wp2_with fail
       exact⟨⟨i+1,j+1,done,_,_,by go_num,by go_num,by rw[HM.out.1];omega,by rw[HM.out.2];omega,by rw[Hn.out];omega,by rw[Heq.out,if_neg (show ¬kcmp a b<0 by simpa [kcmp] using Hv.out.1),if_neg (show ¬kcmp b a<0 by simpa [kcmp] using Hv.out.2.1),List.filter_append,show List.filter pr (SOp.less.kid u a b).toList=[] from rec_none Hv.out.2.2];rfl,Hm.out⟩,by simp[intOf];have:=HM.out.1;have:=HM.out.2;omega⟩
     ·skip
      go_wp2_with fail
      exact⟨⟨i,j+1,done,_,_,by go_num,by go_num,by rw[HM.out.1];omega,by rw[HM.out.2];omega,by rw[Hn.out];omega,by rw[Heq.out,if_neg (show ¬kcmp a b<0 by simpa [kcmp] using Hv.out.1),if_pos (show kcmp b a<0 by simpa [kcmp] using Hv.out.2.1)];simp,Hm.out⟩,by simp[intOf];have:=HM.out.1;have:=HM.out.2;omega⟩
    ·skip
     clear HU HL2
     go_wp2_with fail
     go_still_tail 11,(by kernel_rfl)
     change wpList _ _ _ _ _ w1.drew
     go_wp2_with fail
     refine(HH.out w1.drew (below_drew Hm.out.below)).mono ?_
     rintro en w5 ⟨rfl,hb5⟩
     have Hm5:=hide (Hm.out.at_ (fun h k=>h.keeps k) (fun h k=>h.mono k) (below_drew' hb5))
     clear hb5 o0 ol s0 t0 sc0 sc1 sc2 sc3 sc4 tc0 tc1 tc2 tc3 tc4 HH hwe Hm
     have Hm:=Hm5
     clear Hm5
     generalize w5=w7 at *
     cases pv
     ·skip
      have ec:=(bcell Hm.out.below).1
      have s0:=(ec _ 1 HG.out.1).trans HG.out.2.2.1
      have t0:=(ec _ 1 HG.out.2.1).trans HG.out.2.2.2.1
      have o0:=Hm.out.bk.cell 0
      have ol:=Hm.out.bk.lt
      have hwe:w.heap.size<w7.heap.size:=ol
      simp at o0
      have sc0:=(ec _ _ HR.out.1).trans (HR.out.2.2.1 0 _ rfl)
      have sc1:=(ec _ _ HR.out.1).trans (HR.out.2.2.1 1 _ rfl)
      have sc2:=(ec _ _ HR.out.1).trans (HR.out.2.2.1 2 _ rfl)
      have sc3:=(ec _ _ HR.out.1).trans (HR.out.2.2.1 3 _ rfl)
      have sc4:=(ec _ _ HR.out.1).trans (HR.out.2.2.1 4 _ rfl)
      have tc0:=(ec _ _ HR.out.2.1).trans (HR.out.2.2.2 0 _ rfl)
      have tc1:=(ec _ _ HR.out.2.1).trans (HR.out.2.2.2 1 _ rfl)
      have tc2:=(ec _ _ HR.out.2.1).trans (HR.out.2.2.2 2 _ rfl)
      have tc3:=(ec _ _ HR.out.2.1).trans (HR.out.2.2.2 3 _ rfl)
      have tc4:=(ec _ _ HR.out.2.1).trans (HR.out.2.2.2 4 _ rfl)
      rw[Nat.add_zero] at sc0 tc0
      clear ec
      go_wp2_with fail
      obtain⟨S,hS⟩:∃S,MKS w.heap.size g g' rb (ro+i*5) sb (so+j*5) (.slice oA n oc) (.slice (some ⟨rb,ro,none⟩) M mc) (.slice (some ⟨sb,so,none⟩) M1 md) (.pointer p0) (.pointer p1) (.pointer p2) (.pointer p3) (.pointer (some ⟨pg,0,none⟩)) (.pointer q0) (.pointer q1) (.pointer q2) (.pointer q3) (.pointer (some ⟨qg,0,none⟩))=S:=⟨_,rfl⟩
      have hS0:S w7.drew:=by rw[←hS];exact⟨⟨o0,s0,t0⟩,⟨sc0,sc1,sc2,sc3,sc4⟩,tc0,tc1,tc2,tc3,tc4⟩
      refine wp_region_head 24 S (by rfl) (by kernel_rfl) ?_
      have hX:=hide (show ∀W:World,S W→MKS w.heap.size g g' rb (ro+i*5) sb (so+j*5) (.slice oA n oc) (.slice (some ⟨rb,ro,none⟩) M mc) (.slice (some ⟨sb,so,none⟩) M1 md) (.pointer p0) (.pointer p1) (.pointer p2) (.pointer p3) (.pointer (some ⟨pg,0,none⟩)) (.pointer q0) (.pointer q1) (.pointer q2) (.pointer q3) (.pointer (some ⟨qg,0,none⟩)) W from fun W hSw=>by rw[←hS] at hSw;exact hSw)
      iterate 22
       refine HT.nx (v:=?_) rfl (by kernel_rfl) (fun _ _ _ h=>h) (Or.inl ⟨by rfl,?_⟩) ‹_› ?_
       rotate_left
       ·intro W hSw;obtain⟨⟨s0,s1,s2⟩,⟨c0,c1,c2,c3,c4⟩,d0,d1,d2,d3,d4⟩:=hX.out W hSw;go_simp;with_reducible rfl
       simp only[Act.put,zzA,zzZ,zzS]
      clear hX
      refine HT.one 22 rfl (by kernel_rfl) (by rfl) (fun K hK=>?_)
      go_simp
      have hbA:Below w7.heap.size w7 (w7.drew.alloc (.cells #[.pointer p0,.pointer p1,.pointer p2,.pointer p3,.pointer (some ⟨pg,0,none⟩)] 214)):=(below_drew (Below.refl _ _)).alloc (Nat.le_refl _) _
      have hS1:S (w7.drew.alloc (.cells #[.pointer p0,.pointer p1,.pointer p2,.pointer p3,.pointer (some ⟨pg,0,none⟩)] 214)):=by
       rw[←hS] at hS0 ⊢
       exact hS0.to HLT.out fun b k hb=>(bcell hbA).1 _ _ (by omega)
      refine hK.out _ _ hS1 ?_
      clear hK K
      refine HT.one 23 rfl (by kernel_rfl) (by rfl) (fun K hK=>?_)
      have hmA:=Hm.out.at_ (fun h k=>h.keeps k) (fun h k=>h.mono k) hbA
      refine wp_append_row _ (.tmp 65) (.tmp 83) 126 rfl (w.heap.size+1) 214 i9 _ 5 40 Tryz.underlying126 hi9 hz9 hs9 hb9 rfl (by omega) (.slice oA n oc) n us rfl (by have q:=hmA.own;rw[Hn.out] at q;exact q) (fun _=>True) (some ⟨w7.heap.size,0,none⟩) 1 1 [.pointer p0,.pointer p1,.pointer p2,.pointer p3,.pointer (some ⟨pg,0,none⟩)] rfl (Row.of_bkp (Bk.new w7.drew 214 ([.pointer p0,.pointer p1,.pointer p2,.pointer p3,.pointer (some ⟨pg,0,none⟩)]:List Value).toArray) rfl trivial) (by simp[Value.oneCell']) (by omega) (by omega) (by show w.heap.size+1≤(w7.alloc (.cells #[.pointer p0,.pointer p1,.pointer p2,.pointer p3,.pointer (some ⟨pg,0,none⟩)] 214)).heap.size;rw[World.size_alloc];omega) ?_
      intro v' w3 hown3 hg3 hat3
      have hlo3:=hmA.own.lt
      have hstep:=hmA.step HF.out (add:=[a]) (fun h k=>h.keeps k) (fun h k=>h.mono k) (by rw[Hn.out];exact hown3) hg3 hat3 (Cells.one ((HK.out.1.keeps (Keeps.below hmA.below HF.out)).mono (Apart.old HF.out hmA)) rfl)
      have hsz3:w7.heap.size+1≤w3.heap.size:=by have h1:(w7.alloc (.cells #[.pointer p0,.pointer p1,.pointer p2,.pointer p3,.pointer (some ⟨pg,0,none⟩)] 214)).heap.size≤w3.heap.size:=hg3.size;rw[World.size_alloc] at h1;exact h1
      have hne:∀b,b≤w.heap.size→some b≠(Value.slice oA n oc).ownBlock:=fun b hb e=>by have:=(hlo3 b e.symm).1;omega
      have hS3:S w3:=by
       rw[←hS] at hS1 ⊢
       exact hS1.to HLT.out fun b k hb=>(gcell hg3).1 _ _ (by show b<(w7.alloc (.cells #[.pointer p0,.pointer p1,.pointer p2,.pointer p3,.pointer (some ⟨pg,0,none⟩)] 214)).heap.size;rw[World.size_alloc];omega) (hne _ hb)
      go_simp
      refine hK.out _ _ hS3 ?_
      clear hK K
      refine HT.done (by kernel_rfl) ?_
      simp only[List.drop_succ_cons,List.drop_zero]
      have hO3:Bk w3 w.heap.size 128 #[.slice oA n oc]:=hmA.bk.grown hg3 (hne _ (Nat.le_refl _))
      have z0:=hO3.cell 0
      have z1:=hO3.free 0
      simp at z0
      obtain⟨nA,nc,rfl,_,_⟩:=own_form hown3
      have Hs:=hide (And.intro hstep hsz3)
      clear hS0 hS1 hS3 hS hbA hmA hown3 hg3 hat3 hlo3 hstep hsz3 hne hO3
      clear o0 s0 t0 sc0 sc1 sc2 sc3 sc4 tc0 tc1 tc2 tc3 tc4
      go_wp2_with fail
      exact⟨⟨i+1,j,done++[a],_,_,by go_num,by go_num,by rw[HM.out.1];omega,by rw[HM.out.2];omega,by rw[List.length_append,Hn.out];show n+1≤_;omega,by rw[Heq.out,if_pos (show kcmp a b<0 by simpa [kcmp] using Hv.out.1)];simp[List.filter_cons,show pr a=true from Hv.out.2.2 a.2],Hs.out.1⟩,by simp[intOf];have:=HM.out.1;have:=HM.out.2;omega⟩
     ·go_wp2_with fail
      exact⟨⟨i+1,j,done,_,_,by go_num,by go_num,by rw[HM.out.1];omega,by rw[HM.out.2];omega,by rw[Hn.out];omega,by rw[Heq.out,if_pos (show kcmp a b<0 by simpa [kcmp] using Hv.out.1)];simp[List.filter_cons,show pr a=false from Hv.out.2.2 a.2],Hm.out⟩,by simp[intOf];have:=HM.out.1;have:=HM.out.2;omega⟩
   ·have hkj1:¬(j:Int)<(M1:Int):=by omega
    have hki1:(i:Int)<(M:Int):=by omega
    rw[mrg_end_r (show m'.length≤j by rw[HM.out.2];omega),if_pos rfl] at heq
    have Heq:=hide heq
    clear heq ec
    have hcne:¬mc=i:=by omega
    have hic:(i:Int)≤(mc:Int):=by omega
    obtain⟨rb,ro,rfl,hF1,hc⟩:=HG.out.2.2.2.2.1.2 (by omega)
    have hdrop:=HG.out.2.2.2.2.1.drop_at (m:=i) (by omega)
    have Hd:=hide (And.intro hdrop (HG.out.2.2.2.2.2.2.1.drop_ i))
    have hm1:Mg 5 128 214 KQ F w (done++((m.drop i).take 0).filter pr) (.slice oA n oc) wo us:=by rw[List.take_zero,List.filter_nil,List.append_nil];exact Hm.out
    have Hst:=hide (show RKEnd pr F w done (m.drop i) (.int .i64 0) wo from⟨0,_,us,rfl,Nat.zero_le _,hm1⟩)
    clear hdrop hc hF1 hm1
    have hwel:w.heap.size<wo.heap.size:=ol
    go_wp2_with fail
    go_loopw [179] (fun s W=>RKEnd pr F w done (m.drop i) s W) (fun s _=>(M-i)-(intOf s).toNat)
    case atStart=>exact Hst.out
    case round=>
     clear Hst
     obtain⟨k,s',vs,rfl,hk,hm⟩:=hrel
     rw[List.length_drop,HM.out.1] at hk
     have hkk0:(0:Int)≤(k:Int):=Int.natCast_nonneg _
     obtain⟨D,hD⟩:∃D,done++((m.drop i).take k).filter pr=D:=⟨_,rfl⟩
     rw[hD] at hm
     have hDn:D.length≤i+j+k:=by
      have h1:=List.length_filter_le pr ((m.drop i).take k)
      rw[List.length_take] at h1
      rw[←hD,List.length_append,Hn.out]
      omega
     obtain⟨n2,hn2⟩:∃n2,D.length=n2:=⟨_,rfl⟩
     rw[hn2] at hDn
     have hown:=hm.own
     rw[hn2] at hown
     obtain⟨oB,od,rfl,hod1,hod2⟩:=own_form hown
     have Hlo:=hide hown.lt
     have Hn2:=hide hn2
     have Hm2:=hide hm
     clear hn2 hown hm
     have ec:=(bcell Hm2.out.below).1
     have o0:=Hm2.out.bk.cell 0
     have ol:=Hm2.out.bk.lt
     simp at o0
     by_cases hkl:k<M-i
     ·have hkl1:(k:Int)<((M-i:Nat):Int):=by omega
      have hkl2:(k:Int)<(M:Int)-(i:Int):=by omega
      have hkd:k<(m.drop i).length:=by rw[List.length_drop,HM.out.1];exact hkl
      have hx':=Hd.out.2.at_ hkd
      have hsn:(m.drop i).take (k+1)=(m.drop i).take k++[(m.drop i)[k]]:=List.take_succ_eq_append_getElem hkd
      have hao:=HP.out.2.2 _ (List.mem_of_mem_drop (List.getElem_mem hkd))
      generalize (m.drop i)[k]=a at *
      generalize hcs:((xs.drop (i*5)).drop (k*5)).take 5=fcs at hx'
      have hxk:=hx'
      obtain⟨p0,p1,p2,p3,pg,rfl,hxe,hxs⟩:=hx'.form
      obtain⟨rb2,ro2,he,hF1,hc⟩:=rown_at Hd.out.1 hkl hcs
      cases he
      have sc0:=(ec _ _ (HF.out _ hF1)).trans (hc 0 _ rfl)
      have sc1:=(ec _ _ (HF.out _ hF1)).trans (hc 1 _ rfl)
      have sc2:=(ec _ _ (HF.out _ hF1)).trans (hc 2 _ rfl)
      have sc3:=(ec _ _ (HF.out _ hF1)).trans (hc 3 _ rfl)
      have sc4:=(ec _ _ (HF.out _ hF1)).trans (hc 4 _ rfl)
      rw[Nat.add_zero] at sc0
      have hrb:rb<w.heap.size:=HF.out _ hF1
      obtain⟨pv,hpv⟩:∃pv,hasC E.cmp a.1 q=pv:=⟨_,rfl⟩
      have HH:=hide fun(W:World) (hb:Below w.heap.size w W)=>HH0.out W hb _ _ _ _ _ hao ((hxe.mono HF.out:PEAt (Old w) w _ _).at_ hb)
      rw[hpv] at HH
      have Heq2:=hide (show done++((m.drop i).take (k+1)).filter pr=D++(if pv=true then [] else [a]) by
       rw[hsn,List.filter_append,←List.append_assoc,hD,List.filter_cons,show pr a = !pv by rw[HPR.out,hpv]]
       cases pv <;> rfl)
      have HK:=hide hxk
      clear hpv hsn hD hx' hxk hxe hxs hcs hc hF1 ec hao hkd
      obtain⟨wo2,hwo2⟩:∃W,W=wr:=⟨_,rfl⟩
      subst hwo2
      go_upto_region 19 with fail
      have hbA:Below wo2.heap.size wo2 (wo2.alloc (.cells #[.pointer p0,.pointer p1,.pointer p2,.pointer p3,.pointer (some ⟨pg,0,none⟩)] 214)):=(Below.refl _ _).alloc (Nat.le_refl _) _
      have hX:=Bk.new wo2 214 #[.pointer p0,.pointer p1,.pointer p2,.pointer p3,.pointer (some ⟨pg,0,none⟩)]
      have Hm3:=hide (Hm2.out.at_ (fun h k=>h.keeps k) (fun h k=>h.mono k) hbA)
      clear sc0 sc1 sc2 sc3 sc4 o0
      generalize hwA:World.alloc wo2 _=wA at hbA hX Hm3 ⊢
      obtain⟨xb,hxb⟩:∃xb,wo2.heap.size=xb:=⟨_,rfl⟩
      rw[hxb] at hX Hlo ol
      try rw[hxb]
      have HX:=hide hX
      have x0:=hX.cell 0
      have x1:=hX.cell 1
      have x2:=hX.cell 2
      have x3:=hX.cell 3
      have x4:=hX.cell 4
      have hxl:=hX.lt
      simp at x0 x1 x2 x3 x4
      clear hX hbA hwA Hm2
      go_wp2_with fail
      go_still_tail 5,(by kernel_rfl)
      change wpList _ _ _ _ _ wA.drew
      go_wp2_with fail
      refine(HH.out wA.drew (below_drew Hm3.out.below)).mono ?_
      rintro en w5 ⟨rfl,hb5⟩
      have Hm5:=hide (Hm3.out.at_ (fun h k=>h.keeps k) (fun h k=>h.mono k) (below_drew' hb5))
      have hX5:=HX.out.below (below_drew' hb5) hxl
      have o0:=Hm5.out.bk.cell 0
      simp at o0
      clear hb5 HH Hm3 HX x0 x1 x2 x3 x4 hxl
      have x0:=hX5.cell 0
      have x1:=hX5.cell 1
      have x2:=hX5.cell 2
      have x3:=hX5.cell 3
      have x4:=hX5.cell 4
      have hxl:=hX5.lt
      simp at x0 x1 x2 x3 x4
      clear hX5
      cases pv
      ·go_wp2_with fail
       obtain⟨S,hS⟩:∃S:World→Prop,(fun W=>W.cell? ⟨w.heap.size,0,none⟩=some (.slice oB n2 od)∧W.cell? ⟨xb,0,none⟩=some (.pointer p0)∧W.cell? ⟨xb,1,none⟩=some (.pointer p1)∧W.cell? ⟨xb,2,none⟩=some (.pointer p2)∧W.cell? ⟨xb,3,none⟩=some (.pointer p3)∧W.cell? ⟨xb,4,none⟩=some (.pointer (some ⟨pg,0,none⟩)))=S:=⟨_,rfl⟩
       have hS0:S w5.drew:=by rw[←hS];exact⟨o0,x0,x1,x2,x3,x4⟩
       refine wp_region_head 8 S (by rfl) (by kernel_rfl) ?_
       have hX:=hide (show ∀W:World,S W→W.cell? ⟨w.heap.size,0,none⟩=some (.slice oB n2 od)∧W.cell? ⟨xb,0,none⟩=some (.pointer p0)∧W.cell? ⟨xb,1,none⟩=some (.pointer p1)∧W.cell? ⟨xb,2,none⟩=some (.pointer p2)∧W.cell? ⟨xb,3,none⟩=some (.pointer p3)∧W.cell? ⟨xb,4,none⟩=some (.pointer (some ⟨pg,0,none⟩)) from fun W hSw=>by rw[←hS] at hSw;exact hSw)
       iterate 6
        refine HT.nx (v:=?_) rfl (by kernel_rfl) (fun _ _ _ h=>h) (Or.inl ⟨by rfl,?_⟩) ‹_› ?_
        rotate_left
        ·intro W hSw;have hSw:=hX.out W hSw;go_simp;with_reducible rfl
        simp only[Act.put,zzA,zzZ,zzS]
       clear hX
       refine HT.one 6 rfl (by kernel_rfl) (by rfl) (fun K hK=>?_)
       go_simp
       have hbA:Below w5.heap.size w5 (w5.drew.alloc (.cells #[.pointer p0,.pointer p1,.pointer p2,.pointer p3,.pointer (some ⟨pg,0,none⟩)] 214)):=(below_drew (Below.refl _ _)).alloc (Nat.le_refl _) _
       have hS1:S (w5.drew.alloc (.cells #[.pointer p0,.pointer p1,.pointer p2,.pointer p3,.pointer (some ⟨pg,0,none⟩)] 214)):=by
        rw[←hS] at hS0 ⊢
        have e:=fun b k (hb:b<w5.heap.size)=>(bcell hbA).1 b k hb
        exact⟨(e _ _ (by omega)).trans o0,(e _ _ hxl).trans x0,(e _ _ hxl).trans x1,(e _ _ hxl).trans x2,(e _ _ hxl).trans x3,(e _ _ hxl).trans x4⟩
       refine hK.out _ _ hS1 ?_
       clear hK K
       refine HT.one 7 rfl (by kernel_rfl) (by rfl) (fun K hK=>?_)
       have hmA:=Hm5.out.at_ (fun h k=>h.keeps k) (fun h k=>h.mono k) hbA
       refine wp_append_row _ (.tmp 194) (.tmp 196) 126 rfl (w.heap.size+1) 214 i9 _ 5 40 Tryz.underlying126 hi9 hz9 hs9 hb9 rfl (by omega) (.slice oB n2 od) n2 vs rfl (by have q:=hmA.own;rw[Hn2.out] at q;exact q) (fun _=>True) (some ⟨w5.heap.size,0,none⟩) 1 1 [.pointer p0,.pointer p1,.pointer p2,.pointer p3,.pointer (some ⟨pg,0,none⟩)] rfl (Row.of_bkp (Bk.new w5.drew 214 ([.pointer p0,.pointer p1,.pointer p2,.pointer p3,.pointer (some ⟨pg,0,none⟩)]:List Value).toArray) rfl trivial) (by simp[Value.oneCell']) (by omega) (by omega) (by show w.heap.size+1≤(w5.alloc (.cells #[.pointer p0,.pointer p1,.pointer p2,.pointer p3,.pointer (some ⟨pg,0,none⟩)] 214)).heap.size;rw[World.size_alloc];omega) ?_
       intro v' w3 hown3 hg3 hat3
       have hstep:=hmA.step HF.out (add:=[a]) (fun h k=>h.keeps k) (fun h k=>h.mono k) (by rw[Hn2.out];exact hown3) hg3 hat3 (Cells.one ((HK.out.keeps (Keeps.below hmA.below HF.out)).mono (Apart.old HF.out hmA)) rfl)
       have hne:∀b,b≤w.heap.size∨xb≤b→some b≠(Value.slice oB n2 od).ownBlock:=fun b hb e=>by have:=Hlo.out b e.symm;omega
       have hS3:S w3:=by
        rw[←hS] at hS1 ⊢
        have e:=fun b k (hb:b<w5.heap.size) (hn:b≤w.heap.size∨xb≤b)=>(gcell hg3).1 b k (by show b<(w5.alloc (.cells #[.pointer p0,.pointer p1,.pointer p2,.pointer p3,.pointer (some ⟨pg,0,none⟩)] 214)).heap.size;rw[World.size_alloc];omega) (hne b hn)
        exact⟨(e _ _ (by omega) (.inl (Nat.le_refl _))).trans hS1.1,(e _ _ hxl (.inr (Nat.le_refl _))).trans hS1.2.1,(e _ _ hxl (.inr (Nat.le_refl _))).trans hS1.2.2.1,(e _ _ hxl (.inr (Nat.le_refl _))).trans hS1.2.2.2.1,(e _ _ hxl (.inr (Nat.le_refl _))).trans hS1.2.2.2.2.1,(e _ _ hxl (.inr (Nat.le_refl _))).trans hS1.2.2.2.2.2⟩
       go_simp
       refine hK.out _ _ hS3 ?_
       clear hK K
       refine HT.done (by kernel_rfl) ?_
       simp only[List.drop_succ_cons,List.drop_zero]
       have hO3:Bk w3 w.heap.size 128 #[.slice oB n2 od]:=hmA.bk.grown hg3 (hne _ (.inl (Nat.le_refl _)))
       have z0:=hO3.cell 0
       have z1:=hO3.free 0
       simp at z0
       have hsz3:w5.heap.size+1≤w3.heap.size:=by have h1:(w5.alloc (.cells #[.pointer p0,.pointer p1,.pointer p2,.pointer p3,.pointer (some ⟨pg,0,none⟩)] 214)).heap.size≤w3.heap.size:=hg3.size;rw[World.size_alloc] at h1;exact h1
       obtain⟨nA,nc,rfl,_,_⟩:=own_form hown3
       have Hs:=hide hstep
       clear hS0 hS1 hS3 hS hbA hmA hown3 hg3 hat3 hstep hne hO3 o0 x0 x1 x2 x3 x4
       go_wp2_with fail
       exact⟨⟨k+1,_,_,by go_num,by rw[List.length_drop,HM.out.1];omega,by rw[show done++((m.drop i).take (k+1)).filter pr=D++[a] from Heq2.out.trans (by simp)];exact Hs.out⟩,by simp[intOf];omega⟩
      ·go_wp2_with fail
       exact⟨⟨k+1,_,_,by go_num,by rw[List.length_drop,HM.out.1];omega,by rw[show done++((m.drop i).take (k+1)).filter pr=D from Heq2.out.trans (by simp)];exact Hm5.out⟩,by simp[intOf];omega⟩
     ·have hke:k=M-i:=by omega
      have hkl1:¬(k:Int)<((M-i:Nat):Int):=by omega
      have hkl2:¬(k:Int)<(M:Int)-(i:Int):=by omega
      have hfin:R=D:=(HRR.out.symm.trans Heq.out).trans (by rw[←hD,List.take_of_length_le (by rw[List.length_drop,HM.out.1];omega)])
      have Hfin:=hide hfin
      clear hfin hD
      go_wp2
      go_ret
      exact⟨rfl,_,_,by rw[Hfin.out];exact Hm2.out⟩
  ·have hki1:¬(i:Int)<(M:Int):=by omega
   rw[mrg_end_l (show m.length≤i by rw[HM.out.1];omega)] at heq
   have Heq:=hide heq
   clear heq ec
   go_wp2
   go_ret
   exact⟨rfl,_,_,by have e:R=done:=(HRR.out.symm.trans Heq.out).trans (by simp);rw[e];exact Hm.out⟩
end Go.Proofs.YtbicoknghdgahaaGreat
