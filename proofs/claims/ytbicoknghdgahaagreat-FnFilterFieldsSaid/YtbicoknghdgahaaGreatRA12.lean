import Derived.Test.YtbicoknghdgahaaGreatRA07
import Derived.Test.YtbicoknghdgahaaGreatRA11
set_option linter.unusedVariables false
set_option linter.unusedSimpArgs false
namespace Go.Proofs.YtbicoknghdgahaaGreat
open Go.RowKit
attribute [local go_sem] run_store_float
theorem pinfo:(Tryz.prog.info? 89).map (fun i=>(i.zero,i.size,i.bytes))=some (some (.agg #[.bool false,.int .i64 0,.string ⟨#[]⟩,.slice none 0 0,.slice none 0 0,.int .i64 0,.int .i64 0,.float .f64 0,.string ⟨#[]⟩,.slice none 0 0,.slice none 0 0,.int .i64 0]),12,176):=by kernel_rfl
theorem onep {W W':World}{l:List REl}{A:Option Addr}{c:Nat}(h:PathAt (Old W) W l A c) (hW:W'=W.alloc (.cells #[.slice A l.length c] 22)):PathsAt (Old W') W' [l] (some ⟨W.heap.size,0,none⟩) 1:=by
 subst hW
 have hb:Below W.heap.size W (W.alloc (.cells #[.slice A l.length c] 22)):=(Below.refl _ _).alloc (Nat.le_refl _) _
 exact⟨by unfold R47;simp,by simp,by unfold maxLen;decide,[.slice A l.length c],Row.of_bkp (Bk.new W 22 [.slice A l.length c].toArray) rfl (by show W.heap.size<_;rw[World.size_alloc];omega),Cells.one ⟨A,c,rfl,h.at_ hb⟩ rfl⟩
def patL (l:List REl):List (Bool × REl):=l.map fun e=>(false,e)
theorem patL_length {l:List REl}:(patL l).length=l.length:=List.length_map _
theorem patP_patL {l:List REl}:patP (patL l)=(pel l).map some:=by simp[patP,patL,pel,stepP,Function.comp_def]
def FPI (w:World) (l:List REl) (s5 s32:Value) (W:World):Prop:=
 ∃(k:Nat) (us:List Value),s32 = .int .i64 (k:Int)∧k≤l.length∧W.ownsRow w.heap.size 89 12 s5 k us∧Cells 12 (PartAt (Old w) W) ((patL l).take k) us∧Below w.heap.size w W
def FQI (w:World) (n:Nat) (s48:Value) (W:World):Prop:=∃k:Nat,s48 = .int .i64 (k:Int)∧k≤n∧Below w.heap.size w W
set_option maxRecDepth 100000 in
set_option maxHeartbeats 16000000 in
theorem ffLaw {ls:List (List REl)}{p:List REl}{A B:Option Addr}{c d:Nat}{w:World}(h:PathsAt (Old w) w ls A c) (hp:PathAt (Old w) w p B d) :
  Calls Tryz.prog 13 #[.slice A ls.length c,.slice B p.length d] w (LawPost w):=by
 have hN0:0<(837723144946+1):=by omega
 have hNR:(837723144946+1)*168≤R47:=by unfold R47;omega
 have ht:=setP_ht47 h
 have hA47:ls.length*24≤140737488351232:=h.1
 have hB47:p.length*168≤140737488351232:=hp.1
 obtain⟨i9,hi9,hz9,hs9,hb9⟩:=info_parts pinfo
 have H0:=hide (And.intro h (And.intro hp ht))
 obtain⟨xs,hx1,hx2⟩:=hp.2.2.2
 have HR:=hide (And.intro hx1 hx2)
 obtain⟨n,hn⟩:∃n,ls.length=n:=⟨_,rfl⟩
 obtain⟨m,hm⟩:∃m,p.length=m:=⟨_,rfl⟩
 have Hn:=hide (And.intro hn hm)
 have Z:=hide (And.intro hN0 hNR)
 rw[hn] at hA47 ⊢
 rw[hm] at hB47 ⊢
 clear h hp ht hx1 hx2 hn hm hN0 hNR
 by_cases hbig:2147483647<n
 ·have gi1:(2147483647:Int)<(n:Int):=by omega
  have gd1:decide ((2147483647:Int)<(n:Int))=true:=decide_eq_true gi1
  go_enter Tryz.func13,Tryz.ntmps13
  go_wp2
  go_ret
  exact⟨rfl,Below.refl _ _⟩
 have gi1:¬(2147483647:Int)<(n:Int):=by omega
 have gd1:decide ((2147483647:Int)<(n:Int))=false:=decide_eq_false gi1
 by_cases hbig2:2147483647<m
 ·have gi2:(2147483647:Int)<(m:Int):=by omega
  have gd2:decide ((2147483647:Int)<(m:Int))=true:=decide_eq_true gi2
  go_enter Tryz.func13,Tryz.ntmps13
  go_wp2
  go_ret
  exact⟨rfl,Below.refl _ _⟩
 have gi2:¬(2147483647:Int)<(m:Int):=by omega
 have gd2:decide ((2147483647:Int)<(m:Int))=false:=decide_eq_false gi2
 by_cases hm0:m=0
 ·subst hm0
  go_enter Tryz.func13,Tryz.ntmps13
  go_wp2
  go_ret
  exact⟨rfl,Below.refl _ _⟩
 have gm0:¬(m:Int)=0:=by omega
 have gmb:((m:Int)==0)=false:=beq_eq_false_iff_ne.2 gm0
 -- both(l, p)
 have hbx:Below w.heap.size w (w.alloc (.cells #[.slice B m d] 22)):=(Below.refl _ _).alloc (Nat.le_refl _) _
 have hone:PathsAt (Old (w.alloc (.cells #[.slice B m d] 22))) (w.alloc (.cells #[.slice B m d] 22)) [p] (some ⟨w.heap.size,0,none⟩) 1:=onep H0.out.2.1 (by rw[Hn.out.2])
 have HB:=hide (both_calls (H0.out.1.at_ hbx) hone (by rw[Hn.out.1];simp only[List.length_singleton];unfold R47;omega))
 rw[Hn.out.1] at HB
 have Hbx:=hide hbx
 clear hbx hone
 go_enter Tryz.func13,Tryz.ntmps13
 go_wp2_with fail
 refine HB.out.mono ?_
 rintro en w1 ⟨A1,c1,rfl,hpa,hb1⟩
 have HO:=hide (orderlyPaths_calls hpa)
 have Hb:=hide (Hbx.out.trans (hb1.mono Hbx.out.size))
 have hlen:(ls++[p]).length=n+1:=by rw[List.length_append,Hn.out.1];rfl
 rw[hlen] at HO
 try rw[hlen]
 clear hpa hb1 HB Hbx hlen
 go_wp2_with fail
 refine HO.out.mono ?_
 rintro en w2 ⟨t,rfl,hok,hb2⟩
 have Hok:=hide hok
 have Hb2:=hide (Hb.out.trans (hb2.mono Hb.out.size))
 clear hok hb2 HO Hb
 cases t
 ·go_wp2
  go_ret
  exact⟨rfl,Hb2.out⟩
 have hok:∀l ∈ ls++[p],POk (pel l):=Hok.out (by first | trivial | rfl)
 have hlo:∀q ∈ pels ls,POk q:=pels_all fun l hl=>hok l (by simp[hl])
 have hpo:POk (pel p):=hok p (by simp)
 have Ho:=hide (And.intro hlo hpo)
 clear hok hlo hpo Hok
 go_wp2_with fail
 have hww2:w.heap.size≤w2.heap.size:=Hb2.out.size
 go_loopw [5,32] (fun s5 s32 W=>FPI w p s5 s32 W) (fun _ s _=>m-(intOf s).toNat)
 case atStart=>exact⟨0,[],rfl,Nat.zero_le _,World.ownsRow_nil _ _ _ _,by rw[List.take_zero];exact Cells.nil_,Hb2.out⟩
 case round=>
  obtain⟨k,us,rfl,hk,hown,hus,hb⟩:=hrel
  rw[Hn.out.2] at hk
  have hki0:(0:Int)≤(k:Int):=Int.natCast_nonneg _
  obtain⟨oA,oc,rfl,hoc1,hoc2⟩:=own_form hown
  by_cases hlt:k<m
  ·have hki1:(k:Int)<(m:Int):=by omega
   have hlt':k<p.length:=by rw[Hn.out.2];exact hlt
   have hx:=HR.out.2.at_ hlt'
   have hsn:(patL p).take (k+1)=(patL p).take k++[(false,p[k])]:=by rw[List.take_succ_eq_append_getElem (by rw[patL_length];exact hlt')];simp[patL]
   generalize p[k]=fx at *
   generalize hcs:(xs.drop (k*11)).take 11=fcs at hx
   have hxk:=hx
   obtain⟨a0,a1,a2,a3,a4,a5,a6,a7,a8,a9,aa,ab,ac,ad,ae,af,ag,ah,ai,rfl⟩:=hx.form
   obtain⟨rb,ro,rfl,hF,hc⟩:=rown_at HR.out.1 hlt' hcs
   have ec:=(bcell hb).1
   have q0:=(ec _ _ hF).trans (hc 0 _ rfl)
   have q1:=(ec _ _ hF).trans (hc 1 _ rfl)
   have q2:=(ec _ _ hF).trans (hc 2 _ rfl)
   have q3:=(ec _ _ hF).trans (hc 3 _ rfl)
   have q4:=(ec _ _ hF).trans (hc 4 _ rfl)
   have q5:=(ec _ _ hF).trans (hc 5 _ rfl)
   have q6:=(ec _ _ hF).trans (hc 6 _ rfl)
   have q7:=(ec _ _ hF).trans (hc 7 _ rfl)
   have q8:=(ec _ _ hF).trans (hc 8 _ rfl)
   have q9:=(ec _ _ hF).trans (hc 9 _ rfl)
   have q10:=(ec _ _ hF).trans (hc 10 _ rfl)
   rw[Nat.add_zero] at q0
   have hrb:rb<w.heap.size:=hF
   have hwe:w.heap.size≤wr.heap.size:=hb.size
   have Hq:=hide (And.intro hown (And.intro hus (And.intro hb (And.intro hsn hxk))))
   clear hown hus hb hsn hx hxk hcs hc ec hF
   obtain⟨wo,hwo⟩:∃W,W=wr:=⟨_,rfl⟩
   subst hwo
   go_upto_region 9 with fail
   have hX:=Bk.new wo 29 #[.int .i64 a0,.string a1,.slice a2 a3 a4,.slice a5 a6 a7,.int .i64 a8,.int .i64 a9,.float .f64 aa,.string ab,.slice ac ad ae,.slice af ag ah,.int .i64 ai]
   clear q0 q1 q2 q3 q4 q5 q6 q7 q8 q9 q10
   generalize hwA:World.alloc wo _=wA at hX ⊢
   have hbA:Below wo.heap.size wo wA:=by rw[←hwA];exact(Below.refl _ _).alloc (Nat.le_refl _) _
   obtain⟨xb,hxb⟩:∃xb,wo.heap.size=xb:=⟨_,rfl⟩
   rw[hxb] at hX
   try rw[hxb]
   have x0:=hX.cell 0
   have x1:=hX.cell 1
   have x2:=hX.cell 2
   have x3:=hX.cell 3
   have x4:=hX.cell 4
   have x5:=hX.cell 5
   have x6:=hX.cell 6
   have x7:=hX.cell 7
   have x8:=hX.cell 8
   have x9:=hX.cell 9
   have x10:=hX.cell 10
   have hxl:=hX.lt
   simp at x0 x1 x2 x3 x4 x5 x6 x7 x8 x9 x10
   have hwoA:wo.heap.size≤wA.heap.size:=hbA.size
   obtain⟨W3,hW3⟩:∃W3,wA.alloc (.cells #[.bool false,.int .i64 a0,.string a1,.slice a2 a3 a4,.slice a5 a6 a7,.int .i64 a8,.int .i64 a9,.float .f64 aa,.string ab,.slice ac ad ae,.slice af ag ah,.int .i64 ai] 89)=W3:=⟨_,rfl⟩
   have hbB:Below wo.heap.size wo W3:=by rw[←hW3];exact hbA.alloc hwoA _
   have hown3:=ownsRow_below Hq.out.1 hbB (Nat.le_refl _)
   have hk3:Keeps (Old w) wo W3:=Keeps.below hbB fun b hb=>Nat.lt_of_lt_of_le hb hwe
   have hus3:Cells 12 (PartAt (Old w) W3) ((patL p).take k) us:=Hq.out.2.1.mono fun _ _ h=>h.keeps hk3
   have hitem:PartAt (Old w) W3 (false,fx) [.bool false,.int .i64 a0,.string a1,.slice a2 a3 a4,.slice a5 a6 a7,.int .i64 a8,.int .i64 a9,.float .f64 aa,.string ab,.slice ac ad ae,.slice af ag ah,.int .i64 ai]:=⟨_,rfl,(Hq.out.2.2.2.2.keeps (Keeps.below (Hq.out.2.2.1.trans (hbB.mono hwe)) fun _ h=>h))⟩
   have H3:=hide (And.intro hown3 (And.intro hus3 (And.intro (Hq.out.2.2.1.trans (hbB.mono hwe)) (And.intro hitem Hq.out.1.lt))))
   rw[←hW3] at H3
   clear hX hbA hwA hbB hown3 hk3 hus3 hitem hW3
   go_wp2_with (at_builtin;go_loud (refine wpList_append_row _ rfl (.tmp 36) (.tmp 39) 87 rfl w.heap.size 89 i9 _ 12 176 Tryz.underlying87 hi9 hz9 hs9 hb9 rfl (by omega) (.slice oA k oc) k us rfl H3.out.1 (fun _=>True) (some ⟨wA.heap.size,0,none⟩) 1 1 [.bool false,.int .i64 a0,.string a1,.slice a2 a3 a4,.slice a5 a6 a7,.int .i64 a8,.int .i64 a9,.float .f64 aa,.string ab,.slice ac ad ae,.slice af ag ah,.int .i64 ai] rfl (Row.of_bkp (Bk.new _ _ _) rfl trivial) (by simp[Value.oneCell']) (by omega) (by omega) (by rw[World.size_alloc];omega) ?_))
   intro v8 w8 hown8 hg8 hat8
   have hst:=old_step (Q:=PartAt) (fun h k=>h.keeps k) H3.out.2.1 H3.out.2.2.1 (fun b e=>(H3.out.2.2.2.2 b e).1) hg8 (Cells.one H3.out.2.2.2.1 rfl)
   obtain⟨nA,nc,rfl,_,_⟩:=own_form hown8
   have Hx:=hide (show FPI w p (.slice nA (k+1) nc) (.int .i64 ((k+1:Nat):Int)) w8 from⟨k+1,_,rfl,by rw[Hn.out.2];omega,hown8,by rw[Hq.out.2.2.2.1];exact hst.1,hst.2⟩)
   clear hown8 hg8 hat8 hst H3 Hq x0 x1 x2 x3 x4 x5 x6 x7 x8 x9 x10
   go_wp2_with fail
   exact⟨Hx.out,by simp[intOf];omega⟩
  ·have hke:k=m:=by omega
   subst hke
   have hki1:¬((k:Nat):Int)<(k:Int):=by omega
   have hpl:(patL p).length=k:=by rw[patL_length,Hn.out.2]
   rw[List.take_of_length_le (by rw[hpl];exact Nat.le_refl _)] at hus
   have hbA:Below wr.heap.size wr (wr.alloc (.cells #[.slice oA k oc] 87)):=(Below.refl _ _).alloc (Nat.le_refl _) _
   have hpat:PatAt (Old wr) wr (patL p) oA oc:=⟨by rw[hpl];unfold R47;omega,by rw[hpl];exact hoc1,hoc2,us,by rw[hpl];exact Row.of_own hown fun b hb=>(hown.lt b hb).2,hus.mono fun _ _ h=>h.mono fun b hb'=>Nat.lt_of_lt_of_le hb' hb.size⟩
   have hs:PatsAt (Old (wr.alloc (.cells #[.slice oA k oc] 87))) (wr.alloc (.cells #[.slice oA k oc] 87)) [patL p] (some ⟨wr.heap.size,0,none⟩) 1:=by
    refine⟨by simp[R47],Nat.le_refl _,by simp[maxLen],[.slice oA k oc],Row.of_bkp (Bk.new wr 87 ([.slice oA k oc]:List Value).toArray) rfl (by show wr.heap.size<_;rw[World.size_alloc];omega),Cells.one ⟨oA,oc,by rw[hpl],(hpat.keeps (Keeps.below hbA fun _ h=>h)).mono fun b hb=>Nat.lt_of_lt_of_le hb hbA.size⟩ rfl⟩
   have hbw:Below w.heap.size w (wr.alloc (.cells #[.slice oA k oc] 87)):=hb.trans (hbA.mono hb.size)
   have HF:=hide (implSetFilter_calls (N:=(837723144946+1)) (H0.out.1.at_ hbw) hs Ho.out.1 (by rw[Hn.out.1];unfold N38;omega) H0.out.2.2 Z.out.2)
   rw[patP_patL,show(filtS (setP (pels ls)) (chainM ((pel p).map some))).paths.map (List.map E.toREl)=inL ls p from rfl,Hn.out.1] at HF
   have Hbw:=hide hbw
   have Jn:=hide (And.intro (inL_good (p:=p) Z.out.1 Ho.out.1 H0.out.2.2) (And.intro (outL_good Z.out.1 Ho.out.1 Ho.out.2 H0.out.2.2) (And.intro (inL_begins Ho.out.1 Ho.out.2) (fields_whole Z.out.1 Ho.out.1 Ho.out.2 H0.out.2.2))))
   clear hown hus hb hbA hpat hs hbw hpl
   go_wp2_with fail
   refine HF.out.mono ?_
   rintro en w3 ⟨A3,c3,rfl,hp3,hb3⟩
   have b3:Below w.heap.size w w3:=Hbw.out.trans (hb3.mono Hbw.out.size)
   have hin3:PathsAt (Old w3) w3 (inL ls p) A3 c3:=hp3.mono fun b hb=>hb.2
   obtain⟨n3,hn3⟩:∃n3,(inL ls p).length=n3:=⟨_,rfl⟩
   obtain⟨z1,z2,z3,zs,z4,z5⟩:=hin3
   have I3:=hide (And.intro (⟨z1,z2,z3,zs,z4,z5⟩:PathsAt (Old w3) w3 (inL ls p) A3 c3) (And.intro z4 (And.intro z5 (And.intro b3 hn3))))
   have hn3b:n3≤2147483647:=by have:=Jn.out.1.le;rw[hn3,Hn.out.1] at this;omega
   rw[hn3]
   clear hp3 hb3 HF Hbw b3 z1 z2 z3 z4 z5 hn3
   have g3:w.heap.size≤w3.heap.size:=I3.out.2.2.2.1.size
   go_wp2_with fail
   go_loopw [48] (fun s W=>FQI w3 n3 s W) (fun s _=>n3-(intOf s).toNat)
   case atStart=>exact⟨0,rfl,Nat.zero_le _,Below.refl _ _⟩
   case round=>
    obtain⟨j,rfl,hj,hb⟩:=hrel
    have hji0:(0:Int)≤(j:Int):=Int.natCast_nonneg _
    have hwr3:w3.heap.size≤wr.heap.size:=hb.size
    by_cases hjl:j<n3
    ·have hji1:(j:Int)<(n3:Int):=by omega
     have hjl':j<(inL ls p).length:=by rw[I3.out.2.2.2.2];exact hjl
     have hx:=I3.out.2.2.1.at_ hjl'
     have hbe:=Jn.out.2.2.1 _ (List.getElem_mem hjl')
     generalize (inL ls p)[j]=q at *
     generalize hcs:(zs.drop (j*1)).take 1=fcs at hx
     obtain⟨qA,qc,rfl,hq⟩:=hx
     obtain⟨rb,ro,rfl,hF1,hc⟩:=rown_at I3.out.2.1 hjl' hcs
     have q0:=((bcell hb).1 _ _ hF1).trans (hc 0 _ rfl)
     rw[Nat.mul_one,Nat.add_zero] at q0
     have hrb:rb<w3.heap.size:=hF1
     obtain⟨qn,hqn⟩:∃qn,q.length=qn:=⟨_,rfl⟩
     have HP1:=hide (hasPrefix_calls (hq.at_ hb) (H0.out.2.1.at_ (I3.out.2.2.2.1.trans (hb.mono g3))))
     have HP2:=hide fun(W:World) (hb':Below wr.heap.size wr W)=>hasPrefix_calls ((H0.out.2.1.at_ (I3.out.2.2.2.1.trans (hb.mono g3))).at_ hb') ((hq.at_ hb).at_ hb')
     rw[hqn] at q0
     rw[hqn,Hn.out.2] at HP1
     rw[hqn,Hn.out.2] at HP2
     obtain⟨v1,hv1⟩:∃v1,ppre (pel q) (pel p)=v1:=⟨_,rfl⟩
     obtain⟨v2,hv2⟩:∃v2,ppre (pel p) (pel q)=v2:=⟨_,rfl⟩
     rw[hv1] at HP1 hbe
     rw[hv2] at HP2 hbe
     have Hbe:=hide hbe
     have Hb:=hide hb
     clear hbe hcs hq hF1 hc hqn hv1 hv2 hb
     go_wp2_with fail
     refine HP1.out.mono ?_
     rintro en w4 ⟨rfl,hb4⟩
     have Hb4:=hide hb4
     clear hb4 HP1
     cases v1
     ·cases v2
      ·exact absurd Hbe.out (by simp)
      ·go_wp2_with fail
       refine(HP2.out _ Hb4.out).mono ?_
       rintro en w5 ⟨rfl,hb5⟩
       have Hx:=hide (show FQI w3 n3 (.int .i64 ((j+1:Nat):Int)) w5 from⟨j+1,rfl,by omega,Hb.out.trans ((Hb4.out.trans (hb5.mono Hb4.out.size)).mono hwr3)⟩)
       clear hb5 HP2
       go_wp2_with fail
       exact⟨Hx.out,by simp[intOf];omega⟩
     ·have Hx:=hide (show FQI w3 n3 (.int .i64 ((j+1:Nat):Int)) w4 from⟨j+1,rfl,by omega,Hb.out.trans (Hb4.out.mono hwr3)⟩)
      clear HP2
      go_wp2_with fail
      exact⟨Hx.out,by simp[intOf];omega⟩
    ·have hje:j=n3:=by omega
     subst hje
     have hji1:¬((j:Nat):Int)<(j:Int):=by omega
     have hbw:Below w.heap.size w wr:=I3.out.2.2.2.1.trans (hb.mono g3)
     have hbA:Below wr.heap.size wr (wr.alloc (.cells #[.slice B k d] 22)):=(Below.refl _ _).alloc (Nat.le_refl _) _
     have hA:Below w.heap.size w (wr.alloc (.cells #[.slice B k d] 22)):=hbw.trans (hbA.mono hbw.size)
     have hone:PathsAt (Old (wr.alloc (.cells #[.slice B k d] 22))) (wr.alloc (.cells #[.slice B k d] 22)) [p] (some ⟨wr.heap.size,0,none⟩) 1:=onep (H0.out.2.1.at_ hbw) (by rw[Hn.out.2])
     have hp1:∀x ∈ pels [p],POk x:=pels_all fun l hl=>by rw[List.mem_singleton.1 hl];exact Ho.out.2
     have HRc:=hide (implSetRec_calls (N:=(837723144946+1)) (H0.out.1.at_ hA) hone Ho.out.1 hp1 (by rw[Hn.out.1];simp only[List.length_singleton];unfold N38;omega) H0.out.2.2 (setP_ht47 hone) Z.out.2)
     rw[show(recD (837723144946+1) (setP (pels ls)) (setP (pels [p]))).paths.map (List.map E.toREl)=outL (837723144946+1) ls p from rfl,Hn.out.1] at HRc
     have Hbw:=hide (And.intro hA (hb.trans (hbA.mono hwr3)))
     clear hbw hbA hA hone hp1 hb
     go_wp2_with fail
     refine HRc.out.mono ?_
     rintro en w6 ⟨A6,c6,rfl,hp6,hb6⟩
     have hb36:Below w3.heap.size w3 w6:=Hbw.out.2.trans (hb6.mono Hbw.out.2.size)
     have b6:Below w.heap.size w w6:=Hbw.out.1.trans (hb6.mono Hbw.out.1.size)
     have HU:=hide (lv_un (N:=(837723144946+1)) Z.out ⟨(show PathsAt (Old w3) w3 (inL ls p) A3 c3 from I3.out.1).at_ hb36,Jn.out.1,rfl⟩ ⟨hp6.mono fun b hb=>hb.2,Jn.out.2.1,rfl⟩ (by rw[Hn.out.1];unfold N38;omega))
     rw[I3.out.2.2.2.2] at HU
     have Hb6:=hide b6
     clear hp6 hb6 hb36 b6 HRc Hbw
     generalize (outL (837723144946+1) ls p).length=n6 at *
     go_wp2_with fail
     refine HU.out.mono ?_
     rintro en w7 ⟨A7,n7,c7,rfl,hv7,hb7⟩
     have b7:Below w.heap.size w w7:=Hb6.out.trans (hb7.mono Hb6.out.size)
     have HE:=hide (lv_eq (N:=(837723144946+1)) hv7 ⟨H0.out.1.at_ b7,⟨Ho.out.1,H0.out.2.2,Nat.le_refl _⟩,rfl⟩ (by rw[Hn.out.1];unfold N38;omega) (by rw[Hn.out.1];unfold N38;omega) Jn.out.2.2.2)
     rw[Hn.out.1] at HE
     have Hb7:=hide b7
     clear hv7 hb7 b7 HU Hb6
     go_wp2_with fail
     refine HE.out.mono ?_
     rintro en w8 ⟨rfl,hb8⟩
     have H8:=hide (Hb7.out.trans (hb8.mono Hb7.out.size))
     clear hb8 HE
     go_wp2
     go_ret
     exact⟨rfl,H8.out⟩
open Go.RowKit Go.ChangeShapes Go.WideShapes
section
variable {H:Type}{enc:TypeId × Value→H}{w:World}
set_option maxRecDepth 100000 in
theorem open_Path {base:Nat}{v:Value}{d:DataW H}{ps:List MemPlace}(h:DataW.Trod enc Tryz.prog w 0 (fun _=>true) true 22 v d ps) (hw:Small 22 d) (hok:Value.okWide Tryz.prog w .any base 22 v):∃A l c,v = .slice A l.length c∧PathAt (Old w) w l A c:=by
 obtain⟨fuel,hf⟩:=h
 obtain⟨A,l,c,e,hs⟩:=open_path hf hw
 obtain⟨a,n,m,rfl⟩:=okWide_slice Tryz.underlying22 hok
 simp only[Value.cells,List.cons.injEq,and_true] at e
 exact⟨A,l,c,e,hs⟩
end
end Go.Proofs.YtbicoknghdgahaaGreat
