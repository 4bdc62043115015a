import Derived.Test.YtbicoknghdgahaaGreatKC01
import Derived.Test.YtbicoknghdgahaaGreatKJ07
import Derived.Test.YtbicoknghdgahaaGreatRA04
import Derived.Test.YtbicoknghdgahaaGreatRA09
set_option linter.unusedVariables false
set_option linter.unusedSimpArgs false
namespace Go.Proofs.YtbicoknghdgahaaGreat
open Go.RowKit
attribute [local go_sem] run_store_float
set_option maxRecDepth 100000 in
set_option maxHeartbeats 4000000 in
theorem setRec_calls:∀{n a b:Nat}{F:Nat→Prop}{w:World}{g g':Nat}{s t:St},(∀b,F b→b<w.heap.size)→SetR F w g s→SetR F w g' t→s.Ht n→t.Ht n→s.Le a→t.Le b→s.WF→t.WF→(a+b)*40≤R47 →
  Calls Tryz.prog 109 #[.pointer (some ⟨g,0,none⟩),.pointer (some ⟨g',0,none⟩)] w (GivesF F (recD n s t) w)
 | 0,_,_,_,_,_,_,_,_,_,_,_,hn,_,_,_,_,_,_=>by cases hn
 | n+1,a,b,F,w,g,g',.mk m ks,.mk m' ks',hF,hs,ht,hn,hn',hl,hl',hw,hw',h47=>by
  have h47':(a+b)*40≤140737488351232:=h47
  have hn1:∀k ∈ ks,k.2.Ht n∧k.2.Le a∧k.2.WF:=fun k hk=>⟨by cases hn with | mk h=>exact h k hk,by cases hl with | mk h1 h2 h3=>exact h3 k hk,by cases hw with | mk h1 h2 h3 h4 h5=>exact h5 k hk⟩
  have hn2:∀k ∈ ks',k.2.Ht n∧k.2.Le b∧k.2.WF:=fun k hk=>⟨by cases hn' with | mk h=>exact h k hk,by cases hl' with | mk h1 h2 h3=>exact h3 k hk,by cases hw' with | mk h1 h2 h3 h4 h5=>exact h5 k hk⟩
  have hmo:POk m'∧SortC E.cmp m'∧∀k ∈ ks,k.1.Ok:=by
   cases hw with
   | mk h1 h2 h3 h4 h5=>cases hw' with
    | mk i1 i2 i3 i4 i5=>exact⟨i1,i2,h3⟩
  have hm:m.length≤a∧ks.length≤a:=by cases hl with | mk h1 h2 h3=>exact⟨h1,h2⟩
  have hm':m'.length≤b∧ks'.length≤b:=by cases hl' with | mk h1 h2 h3=>exact⟨h1,h2⟩
  have IH:∀{F:Nat→Prop}{W:World}{ga gb:Nat}{s t:St},(∀b,F b→b<W.heap.size)→SetR F W ga s→SetR F W gb t→(s.Ht n∧s.Le a∧s.WF)→(t.Ht n∧t.Le b∧t.WF)→Calls Tryz.prog 109 #[.pointer (some ⟨ga,0,none⟩),.pointer (some ⟨gb,0,none⟩)] W (GivesF F (recD n s t) W):=
   fun hF h1 h2 h3 h4=>setRec_calls hF h1 h2 h3.1 h4.1 h3.2.1 h4.2.1 h3.2.2 h4.2.2 h47
  have hle:=mrg_length (c:=E.cmp) (kl:=SOp.less.kl) (kr:=SOp.less.kr) (f:=SOp.less.el) (l:=m) (m:=m')
  have hlk:=recK_length (u:=recD n) (q:=m') (m:=ks) (m':=ks')
  obtain⟨MA,KA,mc,kc,xs,ys,a1,a2,a3,a4,a5,a6,a7,a8,a9,a10,a11,a12⟩:=hs.parts
  obtain⟨MB,KB,md,kd,xs',ys',b1,b2,b3,b4,b5,b6,b7,b8,b9,b10,b11,b12⟩:=ht.parts
  simp only[St.mem,St.kids] at a2 a3 a4 a5 a7 a9 a10 a11 a12 b2 b3 b4 b5 b7 b9 b10 b11 b12
  have ga0:=a2.cell 0
  have ga1:=a2.cell 1
  have gb0:=b2.cell 0
  have gb1:=b2.cell 1
  simp at ga0 ga1 gb0 gb1
  have hg:=hF _ a1
  have hg':=hF _ b1
  have hbd:Below w.heap.size w w.drew:=below_drew (Below.refl _ _)
  have H1:=hide (esDifference_calls (F:=F) (w:=w.drew) (m:=m) (m':=m') hF hg hg' ga0 gb0 a5 b5 a9 b9 (a11.mono fun _ _ h=>h.keeps fun _ _=>rfl) (b11.mono fun _ _ h=>h.keeps fun _ _=>rfl) (by unfold R47;omega))
  have H2:=hide fun(W:World) (hb:Below w.heap.size w W)=>nmRec_calls (F:=F) (w:=W) IH hn1 hn2 (fun b hb'=>Nat.lt_of_lt_of_le (hF b hb') hb.size) (Nat.lt_of_lt_of_le hg hb.size) (Nat.lt_of_lt_of_le hg' hb.size) (((bcell hb).1 _ _ hg).trans ga1) (((bcell hb).1 _ _ hg').trans gb1) (((bcell hb).1 _ _ hg').trans gb0) a7 b7
   (a10.keeps (Keeps.below hb hF)) (b10.keeps (Keeps.below hb hF)) (a12.mono fun _ _ h=>KQ.keeps h (Keeps.below hb hF)) (b12.mono fun _ _ h=>KQ.keeps h (Keeps.below hb hF)) (by unfold R47;omega) b3 (b9.keeps (Keeps.below hb hF)) (b11.mono fun _ _ h=>h.keeps (Keeps.below hb hF)) hmo.1 hmo.2.1 hmo.2.2
  have HF:=hide hF
  have HL:=hide (And.intro hle (And.intro hlk (And.intro hm hm')))
  rw[show recD (n+1) (.mk m ks) (.mk m' ks') = .mk (mrg E.cmp SOp.less.kl SOp.less.kr SOp.less.el m m') (recK (recD n) m' ks ks') from rfl]
  clear hs ht hn hn' hl hl' hw hw' hmo IH hn1 hn2 a1 a2 a3 a4 a5 a6 a7 a8 a9 a10 a11 a12 b1 b2 b3 b4 b5 b6 b7 b8 b9 b10 b11 b12 ga0 ga1 gb0 gb1 hbd hF hm hm' hle hlk
  generalize mrg E.cmp SOp.less.kl SOp.less.kr SOp.less.el m m'=mm at *
  generalize recK (recD n) m' ks ks'=kk at *
  go_enter Tryz.func109,Tryz.ntmps109
  go_wp2_with fail
  refine wp_region_head 17 (fun _=>True) (by rfl) (by kernel_rfl) ?_
  have hS0:(fun _:World=>True) w.drew:=trivial
  iterate 6
   refine HT.nx (v:=?_) rfl (by kernel_rfl) (fun _ _ _ h=>h) (Or.inl ⟨by rfl,?_⟩) ‹_› ?_
   rotate_left
   ·intro W hSw;go_simp;with_reducible rfl
   simp only[Act.put,zzA,zzZ,zzS]
  refine HT.take 9 (v:=?_) rfl (by kernel_rfl) (fun _ _ _ h=>h) (Or.inl ⟨by rfl,?_⟩) ‹_› ?_
  rotate_left
  ·intro W hSw;go_simp;with_reducible rfl
  simp only[Act.put,zzA,zzZ,zzS]
  refine HT.take 10 (v:=?_) rfl (by kernel_rfl) (fun _ _ _ h=>h) (Or.inl ⟨by rfl,?_⟩) ‹_› ?_
  rotate_left
  ·intro W hSw;go_simp;with_reducible rfl
  simp only[Act.put,zzA,zzZ,zzS]
  refine HT.take 11 (v:=?_) rfl (by kernel_rfl) (fun _ _ _ h=>h) (Or.inl ⟨by rfl,?_⟩) ‹_› ?_
  rotate_left
  ·intro W hSw;go_simp;with_reducible rfl
  simp only[Act.put,zzA,zzZ,zzS]
  refine HT.take 12 (v:=?_) rfl (by kernel_rfl) (fun _ _ _ h=>h) (Or.inl ⟨by rfl,?_⟩) ‹_› ?_
  rotate_left
  ·intro W hSw;go_simp;with_reducible rfl
  simp only[Act.put,zzA,zzZ,zzS]
  refine HT.one 6 rfl (by kernel_rfl) (by rfl) (fun K hK=>?_)
  go_simp
  refine H1.out.mono ?_
  rintro en w1 ⟨rfl,s1,us,hmg⟩
  obtain⟨oA,oc,rfl,_,_⟩:=own_form hmg.own
  have hb1:Below w.heap.size w w1:=below_drew' hmg.below
  have o0:=hmg.bk.cell 0
  have ol:w.heap.size<w1.heap.size:=hmg.bk.lt
  simp at o0
  have Hm1:=hide hmg
  clear hmg H1
  go_simp
  refine hK.out _ _ trivial ?_
  clear hK K hS0
  obtain⟨S,hS⟩:∃S:World→Prop,(fun W=>W.cell? ⟨w.heap.size,0,none⟩=some (.slice oA mm.length oc))=S:=⟨_,rfl⟩
  have hS1:S w1:=by rw[←hS];exact o0
  refine HT.change (S2:=S) (fun _ _=>trivial) ?_
  have hX:=hide (show ∀W:World,S W→W.cell? ⟨w.heap.size,0,none⟩=some (.slice oA mm.length oc) from fun W hSw=>by rw[←hS] at hSw;exact hSw)
  refine HT.take 7 (v:=?_) rfl (by kernel_rfl) (fun _ _ _ h=>h) (Or.inl ⟨by rfl,?_⟩) ‹_› ?_
  rotate_left
  ·intro W hSw;have hSw:=hX.out W hSw;go_simp;with_reducible rfl
  simp only[Act.put,zzA,zzZ,zzS]
  refine HT.take 8 (v:=?_) rfl (by kernel_rfl) (fun _ _ _ h=>h) (Or.inl ⟨by rfl,?_⟩) ‹_› ?_
  rotate_left
  ·intro W hSw;have hSw:=hX.out W hSw;go_simp;with_reducible rfl
  simp only[Act.put,zzA,zzZ,zzS]
  clear hX
  refine HT.one 13 rfl (by kernel_rfl) (by rfl) (fun K hK=>?_)
  go_simp
  refine(H2.out _ hb1).mono ?_
  rintro en w2 ⟨rfl,s2,us2,hmg2⟩
  obtain⟨oB,od,rfl,_,_⟩:=own_form hmg2.own
  have hb2:=hmg2.below
  have z0:=hmg2.bk.cell 0
  have zl:=hmg2.bk.lt
  simp at z0
  have hSw2:S w2:=by rw[←hS] at hS1 ⊢;exact((bcell hb2).1 _ _ ol).trans hS1
  have Hm2:=hide hmg2
  clear hmg2 H2
  go_simp
  refine hK.out _ _ hSw2 ?_
  clear hK K hS1 hS o0
  obtain⟨S2,hS2⟩:∃S2:World→Prop,(fun W=>S W∧W.cell? ⟨w1.heap.size,0,none⟩=some (.slice oB kk.length od))=S2:=⟨_,rfl⟩
  have hS3:S2 w2:=by rw[←hS2];exact⟨hSw2,z0⟩
  refine HT.change (S2:=S2) (fun W h=>by rw[←hS2] at h;exact h.1) ?_
  have hX:=hide (show ∀W:World,S2 W→S W∧W.cell? ⟨w1.heap.size,0,none⟩=some (.slice oB kk.length od) from fun W hSw=>by rw[←hS2] at hSw;exact hSw)
  iterate 3
   refine HT.nx (v:=?_) rfl (by kernel_rfl) (fun _ _ _ h=>h) (Or.inl ⟨by rfl,?_⟩) ‹_› ?_
   rotate_left
   ·intro W hSw;have hSw:=hX.out W hSw;go_simp;with_reducible rfl
   simp only[Act.put,zzA,zzZ,zzS]
  clear hX
  refine HT.done (by kernel_rfl) ?_
  simp only[List.drop_succ_cons,List.drop_zero]
  clear hS3 hS2 hSw2 z0
  have hw12:w1.heap.size≤w2.heap.size:=hb2.size
  have hbx:Below w2.heap.size w2 (w2.alloc (.cells #[.slice oA mm.length oc,.slice oB kk.length od] 130)):=(Below.refl _ _).alloc (Nat.le_refl _) _
  have hbox:=Bk.new w2 130 #[.slice oA mm.length oc,.slice oB kk.length od]
  have hszx:(w2.alloc (.cells #[.slice oA mm.length oc,.slice oB kk.length od] 130)).heap.size=w2.heap.size+1:=World.size_alloc _ _
  have hfin:SetR (fun b=>F b∨Fr w.heap.size (w2.alloc (.cells #[.slice oA mm.length oc,.slice oB kk.length od] 130)) b) (w2.alloc (.cells #[.slice oA mm.length oc,.slice oB kk.length od] 130)) w2.heap.size (.mk mm kk):=by
   have q1:=own_form Hm1.out.own
   have q2:=own_form Hm2.out.own
   obtain⟨_,_,e1,c1,c1'⟩:=q1
   obtain⟨_,_,e2,c2,c2'⟩:=q2
   cases e1
   cases e2
   have k1:Keeps (fun b=>F b∨Fr w.heap.size w1 b) w1 (w2.alloc (.cells #[.slice oA mm.length oc,.slice oB kk.length od] 130)):=Keeps.below (hb2.trans (hbx.mono hb2.size)) fun b hb=>by
    rcases hb with h1 | h1
    ·have:=HF.out b h1;omega
    ·exact h1.2
   have k2:Keeps (fun b=>F b∨Fr w1.heap.size w2 b) w2 (w2.alloc (.cells #[.slice oA mm.length oc,.slice oB kk.length od] 130)):=Keeps.below hbx fun b hb=>by
    rcases hb with h1 | h1
    ·have:=HF.out b h1;omega
    ·exact h1.2
   have u1:∀b,(F b∨Fr w.heap.size w1 b)→F b∨Fr w.heap.size (w2.alloc (.cells #[.slice oA mm.length oc,.slice oB kk.length od] 130)) b:=fun b hb=>hb.imp id fun h=>⟨h.1,by rw[hszx];have:=h.2;omega⟩
   have u2:∀b,(F b∨Fr w1.heap.size w2 b)→F b∨Fr w.heap.size (w2.alloc (.cells #[.slice oA mm.length oc,.slice oB kk.length od] 130)) b:=fun b hb=>hb.imp id fun h=>⟨by have:=h.1;omega,by rw[hszx];have:=h.2;omega⟩
   refine SetR.of_parts (.inr ⟨by omega,by rw[hszx];omega⟩) hbox ?_ ?_ c1 c1' c2 c2' ((Hm1.out.row.keeps k1).mono u1) ((Hm2.out.row.keeps k2).mono u2) (Hm1.out.cells.mono fun _ _ h=>((h.mono fun b hb=>hb.wide).keeps k1).mono u1) (Hm2.out.cells.mono fun _ _ h=>KQ.mono (KQ.keeps (KQ.mono h fun b hb=>hb.wide) k2) u2)
   ·have:=HL.out.1;have h1:=HL.out.2.2.1;have h2:=HL.out.2.2.2;unfold R47;omega
   ·have:=HL.out.2.1;have h1:=HL.out.2.2.1;have h2:=HL.out.2.2.2;unfold R47;omega
  have Hf:=hide (And.intro hfin (hb1.trans ((hb2.trans (hbx.mono hb2.size)).mono hb1.size)))
  clear hfin hbx hbox hszx Hm1 Hm2 HL HF hb1 hb2
  go_wp2
  go_ret
  exact⟨w2.heap.size,rfl,Hf.out.1,Hf.out.2⟩
set_option maxRecDepth 100000 in
set_option maxHeartbeats 4000000 in
theorem implSetRec_calls {l m:List (List REl)}{A B:Option Addr}{c d N:Nat}{w:World}(h:PathsAt (Old w) w l A c) (h':PathsAt (Old w) w m B d) (hl:∀p ∈ pels l,POk p) (hm:∀p ∈ pels m,POk p) (hn:l.length+m.length≤N38) (h1:(setP (pels l)).Ht N) (h2:(setP (pels m)).Ht N) (hN:N*168≤R47) :
  Calls Tryz.prog 57 #[.slice A l.length c,.slice B m.length d] w (GivesPaths ((recD N (setP (pels l)) (setP (pels m))).paths.map (List.map E.toREl)) w):=by
 have hn':l.length+m.length≤274877906944:=hn
 have HT1:=hide (toSet_calls h hl (by unfold N38;omega))
 have HT2:=hide fun(W:World) (hb:Below w.heap.size w W)=>toSet_calls (h'.at_ hb) hm (by unfold N38;omega)
 have hle1:(setP (pels l)).Le l.length:=by have:=setP_le hl;rwa [show(pels l).length=l.length from List.length_map _] at this
 have hle2:(setP (pels m)).Le m.length:=by have:=setP_le hm;rwa [show(pels m).length=m.length from List.length_map _] at this
 have hcount:(recD N (setP (pels l)) (setP (pels m))).paths.length*24≤R47:=by
  have q1:=recD_count (n:=N) (s:=setP (pels l)) (t:=setP (pels m))
  have q2:=setP_count (pels l)
  have q3:=setP_count (pels m)
  rw[show(pels l).length=l.length from List.length_map _] at q2
  rw[show(pels m).length=m.length from List.length_map _] at q3
  unfold R47
  omega
 have Hx:=hide (And.intro h1 (And.intro h2 (And.intro hle1 (And.intro hle2 (And.intro hcount (And.intro (recD_ht (n:=N) h1:(recD N (setP (pels l)) (setP (pels m))).Ht N) (And.intro hN (And.intro (setP_wf hl) (setP_wf hm)))))))))
 have Hb40:=hide (show(l.length+m.length)*40≤R47 by unfold R47;omega)
 clear h h' hl hm hn h1 h2 hN hle1 hle2 hcount hn'
 generalize setP (pels l)=s at *
 generalize setP (pels m)=t at *
 generalize l.length=k1 at *
 generalize m.length=k2 at *
 go_enter Tryz.func57,Tryz.ntmps57
 go_wp2_with fail
 refine HT1.out.mono ?_
 intro e w1 hg
 obtain⟨rfl,hr,hb⟩:=hg.read
 have Hr:=hide (And.intro hr hb)
 clear hr hb hg HT1
 go_wp2_with fail
 refine(HT2.out w1 Hr.out.2).mono ?_
 intro e w2 hg
 obtain⟨rfl,hr2,hb2⟩:=hg.read
 have HU:=hide (setRec_calls (F:=Old w2) (w:=w2) (fun b hb=>hb) ((Hr.out.1.mono fun b hb=>hb.2:SetR (Old w1) w1 _ s).at_ hb2) (hr2.mono fun b hb=>hb.2) Hx.out.1 Hx.out.2.1 Hx.out.2.2.1 Hx.out.2.2.2.1 Hx.out.2.2.2.2.2.2.2.1 Hx.out.2.2.2.2.2.2.2.2 Hb40.out)
 have Hb:=hide (Hr.out.2.trans (hb2.mono Hr.out.2.size))
 clear hr2 hb2 hg Hr HT2
 go_wp2_with fail
 refine HU.out.mono ?_
 rintro e w3 ⟨g3,rfl,hs3,hb3⟩
 have hs3':SetR (Old w3) w3 g3 (recD N s t):=hs3.mono fun b hb=>by
  rcases hb with h1 | h1
  ·have h1:b<w2.heap.size:=h1;have:=hb3.size;show b<w3.heap.size;omega
  ·exact h1.2
 have HF:=hide (fromSet_calls hs3' Hx.out.2.2.2.2.2.1 Hx.out.2.2.2.2.2.2.1 Hx.out.2.2.2.2.1)
 have Hb3:=hide (Hb.out.trans (hb3.mono Hb.out.size))
 clear hs3 hs3' hb3 HU Hb Hx
 generalize (recD N s t).paths.map (List.map E.toREl)=rs at *
 go_wp2_with fail
 refine HF.out.mono ?_
 rintro e w4 ⟨B4,d4,rfl,hp,hb4⟩
 have Hf:=hide (And.intro (hp.mono fun b hb=>⟨Nat.le_trans Hb3.out.size hb.1,hb.2⟩:PathsAt (Fr w.heap.size w4) w4 rs B4 d4) (Hb3.out.trans (hb4.mono Hb3.out.size)))
 clear hp hb4
 go_wp2
 go_ret
 exact⟨B4,d4,rfl,Hf.out.1,Hf.out.2⟩
def ap2 (o:SOp) (N:Nat) (l m:List (List REl)):List (List REl):=(apL o N (pels l) (pels m)).map (List.map E.toREl)
structure GoodL (N K:Nat) (l:List (List REl)):Prop where
 ok:∀p ∈ pels l,POk p
 ht:(setP (pels l)).Ht N
 le:l.length≤K
theorem ap2_pels {o:SOp}{N:Nat}{l m:List (List REl)}:pels (ap2 o N l m)=apL o N (pels l) (pels m):=pels_back (apL_pws (fun p hp=>pels_pws hp) (fun p hp=>pels_pws hp))
theorem ap2_good {o:SOp}{N K J:Nat}{l m:List (List REl)}(hN:0<N) (h:GoodL N K l) (h':GoodL N J m):GoodL N (K+J) (ap2 o N l m) where
 ok:=by rw[ap2_pels];exact apL_ok h.ok h'.ok
 ht:=by rw[ap2_pels];exact setP_ht_of (apL_len h.ht h'.ht) hN
 le:=by
  have h1:=apL_count (o:=o) (n:=N) (a:=pels l) (b:=pels m)
  have e1:(pels l).length=l.length:=List.length_map _
  have e2:(pels m).length=m.length:=List.length_map _
  have h2:=h.le
  have h3:=h'.le
  unfold ap2
  rw[List.length_map]
  omega
theorem ap2_has {o:SOp}{N K J:Nat}{l m:List (List REl)}(h:GoodL N K l) (h':GoodL N J m) {x:List E}(hx:POk x) (hx0:x≠[]) :
  HasC wcmp (pels (ap2 o N l m)) x↔o.says (HasC wcmp (pels l) x) (HasC wcmp (pels m) x):=by
 rw[ap2_pels]
 exact apL_has h.ok h'.ok h.ht h'.ht hx hx0
theorem eq_good {N K J:Nat}{a b:List (List REl)}(ha:GoodL N K a) (hb:GoodL N J b) (h:∀x,POk x→x≠[]→(HasC wcmp (pels a) x↔HasC wcmp (pels b) x)) :
  eqS N (setP (pels a)) (setP (pels b))=true:=(eqS_lists ha.ok hb.ok ha.ht hb.ht).2 h
theorem eqv_turn {a e:E}(ha:a.Ok) (he:e.Ok) (h:E.eqv a e=true):E.eqv e a=true:=
 (E.eqv_iff he ha).2 (E.ord_.eq_turn ha he ((E.eqv_iff ha he).1 h))
theorem chain_cons {a e:E}{q x:List E}:(chainM ((a::q).map some)).lets (e::x)=(E.eqv a e&&(x.isEmpty||(chainM (q.map some)).lets x)):=by
 rw[lets_cons,List.map_cons,chainM]
 show(false||_)=_
 cases h:E.eqv a e <;> simp[Mt.ms,hitM,okM,h]
theorem chain_lets:∀{q x:List E},POk q→POk x→(chainM (q.map some)).lets x=true→ppre x q=true∨ppre q x=true
 | [],x,_,_,_=>.inl (by unfold ppre;rw[List.length_nil,List.take_zero];rfl)
 | a::q,[],_,_,_=>.inr (by unfold ppre;rw[List.length_nil,List.take_zero];rfl)
 | a::q,e::x,hq,hx,h=>by
  rw[chain_cons,Bool.and_eq_true] at h
  have h2:=eqv_turn (hq a (by simp)) (hx e (by simp)) h.1
  have e1:ppre (e::x) (a::q)=(E.eqv e a&&ppre x q):=by unfold ppre;rw[List.length_cons,List.take_succ_cons,peqv]
  have e2:ppre (a::q) (e::x)=(E.eqv a e&&ppre q x):=by unfold ppre;rw[List.length_cons,List.take_succ_cons,peqv]
  rw[e1,e2,h.1,h2,Bool.true_and,Bool.true_and]
  cases x with
  | nil=>exact .inr (by unfold ppre;rw[List.length_nil,List.take_zero];rfl)
  | cons y x=>exact chain_lets (fun z hz=>hq z (by simp[hz])) (fun z hz=>hx z (by simp[hz])) (by simpa using h.2)
theorem chain_of:∀{q x:List E}{i:Nat},peqv q (x.take i)=true→(chainM (q.map some)).lets x=true
 | [],x,_,_=>lets_all rfl x
 | a::q,[],i,h=>by rw[List.take_nil] at h;simp[peqv] at h
 | a::q,e::x,0,h=>by rw[List.take_zero] at h;simp[peqv] at h
 | a::q,e::x,i+1,h=>by
  rw[List.take_succ_cons,peqv,Bool.and_eq_true] at h
  rw[chain_cons,h.1,chain_of h.2]
  simp
theorem bl_lets {q x:List E}(hq:POk q) (hx:POk x) (hx0:x≠[]) (h:Bl (setP [q]) x):(chainM (q.map some)).lets x=true:=by
 obtain⟨i,h0,hi⟩:=h
 have hq':∀p ∈ [q],POk p:=fun p hp=>by rw[List.mem_singleton.1 hp];exact hq
 have hxi:POk (x.take i):=fun z hz=>hx z (List.mem_of_mem_take hz)
 have hne:x.take i≠[]:=by
  cases x with
  | nil=>exact absurd rfl hx0
  | cons a x=>obtain⟨j,rfl⟩:∃j,i=j+1:=⟨i-1,by omega⟩;simp
 obtain⟨p,hp,e⟩:=(has_setP hq' hxi hne).1 hi
 rw[List.mem_singleton.1 hp] at e
 exact chain_of ((peqv_iff hq hxi).2 ((wcmp_zero _ _).1 e))
def inL (l:List (List REl)) (p:List REl):List (List REl):=(filtS (setP (pels l)) (chainM ((pel p).map some))).paths.map (List.map E.toREl)
def outL (N:Nat) (l:List (List REl)) (p:List REl):List (List REl):=(recD N (setP (pels l)) (setP [pel p])).paths.map (List.map E.toREl)
theorem inL_pels {l:List (List REl)}{p:List REl}:pels (inL l p)=(setP (pels l)).paths.filter (chainM ((pel p).map some)).lets:=by
 have hw:∀p ∈ (setP (pels l)).paths,PWS p:=paths_all (setP_all fun p hp=>pels_pws hp)
 unfold inL
 rw[filtS_paths]
 exact pels_back fun x hx=>hw x (List.mem_filter.1 hx).1
theorem outL_pels {N:Nat}{l:List (List REl)}{p:List REl}:pels (outL N l p)=(recD N (setP (pels l)) (setP [pel p])).paths:=
 pels_back (paths_all (recD_all (P:=EWS) (setP_all fun p hp=>pels_pws hp)))
theorem inL_good {N:Nat}{l:List (List REl)}{p:List REl}(hN:0<N) (hl:∀p ∈ pels l,POk p) (ht:(setP (pels l)).Ht N):GoodL N l.length (inL l p) where
 ok:=by rw[inL_pels];exact fun x hx=>paths_pok (setP_wf hl) x (List.mem_filter.1 hx).1
 ht:=by rw[inL_pels];exact setP_ht_of (fun x hx=>ht_paths ht x (List.mem_filter.1 hx).1) hN
 le:=by
  have h1:=filtS_count (setP (pels l)) (chainM ((pel p).map some))
  have h2:=setP_count (pels l)
  rw[show(pels l).length=l.length from List.length_map _] at h2
  unfold inL
  rw[List.length_map]
  omega
theorem outL_good {N:Nat}{l:List (List REl)}{p:List REl}(hN:0<N) (hl:∀p ∈ pels l,POk p) (hp:POk (pel p)) (ht:(setP (pels l)).Ht N):GoodL N (l.length+1) (outL N l p) where
 ok:=by rw[outL_pels];exact paths_pok (recD_wf (setP_wf hl) (setP_wf fun x hx=>by rw[List.mem_singleton.1 hx];exact hp))
 ht:=by rw[outL_pels];exact setP_ht_of (ht_paths (recD_ht ht)) hN
 le:=by
  have h1:=recD_count (n:=N) (s:=setP (pels l)) (t:=setP [pel p])
  have h2:=setP_count (pels l)
  have h3:=setP_count [pel p]
  rw[show(pels l).length=l.length from List.length_map _] at h2
  unfold outL
  rw[List.length_map]
  simp only[List.length_singleton] at h3
  omega
theorem inL_begins {l:List (List REl)}{p:List REl}(hl:∀p ∈ pels l,POk p) (hp:POk (pel p)):∀q ∈ inL l p,ppre (pel q) (pel p)=true∨ppre (pel p) (pel q)=true:=fun q hq=>by
 have hm:pel q ∈ pels (inL l p):=List.mem_map_of_mem hq
 rw[inL_pels] at hm
 obtain⟨h1,h2⟩:=List.mem_filter.1 hm
 exact chain_lets hp (paths_pok (setP_wf hl) _ h1) h2
theorem fields_whole {N:Nat}{l:List (List REl)}{p:List REl}(hN:0<N) (hl:∀p ∈ pels l,POk p) (hp:POk (pel p)) (ht:(setP (pels l)).Ht N) :
  eqS N (setP (pels (ap2 SOp.un N (inL l p) (outL N l p)))) (setP (pels l))=true:=by
 have hin:=inL_good (p:=p) hN hl ht
 have hout:=outL_good hN hl hp ht
 have hp1:∀x ∈ [pel p],POk x:=fun x hx=>by rw[List.mem_singleton.1 hx];exact hp
 refine eq_good (ap2_good (o:=SOp.un) hN hin hout) (J:=l.length) ⟨hl,ht,Nat.le_refl _⟩ fun x hx hx0=>?_
 have hs:=setP_wf hl
 have ht1:=setP_wf hp1
 have e0:HasC wcmp (pels l) x↔(setP (pels l)).Has x:=(has_setP hl hx hx0).symm
 rw[ap2_has (o:=SOp.un) hin hout hx hx0,e0,inL_pels,outL_pels]
 have hsay:∀{P Q:Prop},SOp.un.says P Q↔P∨Q:=fun {P Q}=>by
  unfold SOp.says SOp.un
  by_cases hP:P <;> by_cases hQ:Q <;> simp[hP,hQ]
 rw[hsay]
 constructor
 ·rintro(⟨y,hy,e⟩ | h)
  ·exact⟨y,(List.mem_filter.1 hy).1,e⟩
  ·exact((has_recD hs ht1 (ht_paths ht) hx).1 h).1
 ·rintro⟨y,hy,e⟩
  have hyo:=paths_pok hs y hy
  by_cases hb:Bl (setP [pel p]) y
  ·exact .inl ⟨y,List.mem_filter.2 ⟨hy,bl_lets hp hyo (paths_ne _ y hy) hb⟩,e⟩
  ·obtain⟨z,hz,e2⟩:=(has_recD (n:=N) hs ht1 (ht_paths ht) hyo).2 ⟨⟨y,hy,wcmp_ord.self hyo⟩,hb⟩
   exact .inr ⟨z,hz,wcmp_ord.eq_trans (paths_pok (recD_wf hs ht1) z hz) hyo hx e2 e⟩
end Go.Proofs.YtbicoknghdgahaaGreat
