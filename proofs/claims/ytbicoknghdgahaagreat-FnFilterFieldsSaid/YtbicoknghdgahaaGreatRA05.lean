import Derived.Test.YtbicoknghdgahaaGreatKJ04
import Derived.Test.YtbicoknghdgahaaGreatRA04
set_option linter.unusedVariables false
set_option linter.unusedSimpArgs false
namespace Go.Proofs.YtbicoknghdgahaaGreat
open Go.RowKit
attribute [local go_sem] run_store_float
def stepP (p:Bool × REl):Option E:=if p.1=true then none else some p.2.elem
def patP (l:List (Bool × REl)):List (Option E):=l.map stepP
theorem patP_length {l:List (Bool × REl)}:(patP l).length=l.length:=List.length_map _
def PartAt (F:Nat→Prop) (w:World) (p:Bool × REl) (cs:List Value):Prop:=∃es,cs = .bool p.1::es∧ElemAt F w p.2 es
def PatAt (F:Nat→Prop) (w:World) (l:List (Bool × REl)) (A:Option Addr) (c:Nat):Prop:=l.length*176≤R47∧l.length≤c∧c≤maxLen∧∃xs,Row F w 12 A l.length xs∧Cells 12 (PartAt F w) l xs
def PatsAt (F:Nat→Prop) (w:World) (ls:List (List (Bool × REl))) (A:Option Addr) (c:Nat):Prop:=ls.length*24≤R47∧ls.length≤c∧c≤maxLen∧∃xs,Row F w 1 A ls.length xs∧Cells 1 (fun l cs=>∃A c,cs=[.slice A l.length c]∧PatAt F w l A c) ls xs
section
variable {F G:Nat→Prop} {w w':World} {A:Option Addr} {c:Nat}
theorem PartAt.keeps {p:Bool × REl} {cs:List Value} (h:PartAt F w p cs) (k:Keeps F w w'):PartAt F w' p cs:=by
 obtain⟨es,h1,h2⟩:=h
 exact⟨es,h1,h2.keeps k⟩
theorem PartAt.mono {p:Bool × REl} {cs:List Value} (h:PartAt F w p cs) (k:∀b,F b→G b):PartAt G w p cs:=by
 obtain⟨es,h1,h2⟩:=h
 exact⟨es,h1,h2.mono k⟩
theorem PatAt.keeps {l:List (Bool × REl)} (h:PatAt F w l A c) (k:Keeps F w w'):PatAt F w' l A c:=by
 obtain⟨h1,h2,h3,xs,h4,h5⟩:=h
 exact⟨h1,h2,h3,xs,h4.keeps k,h5.mono fun _ _ h=>h.keeps k⟩
theorem PatAt.mono {l:List (Bool × REl)} (h:PatAt F w l A c) (k:∀b,F b→G b):PatAt G w l A c:=by
 obtain⟨h1,h2,h3,xs,h4,h5⟩:=h
 exact⟨h1,h2,h3,xs,h4.mono k,h5.mono fun _ _ h=>h.mono k⟩
theorem PatsAt.keeps {ls:List (List (Bool × REl))} (h:PatsAt F w ls A c) (k:Keeps F w w'):PatsAt F w' ls A c:=by
 obtain⟨h1,h2,h3,xs,h4,h5⟩:=h
 exact⟨h1,h2,h3,xs,h4.keeps k,h5.mono fun _ _ ⟨A,c,q1,q2⟩=>⟨A,c,q1,q2.keeps k⟩⟩
theorem PatsAt.mono {ls:List (List (Bool × REl))} (h:PatsAt F w ls A c) (k:∀b,F b→G b):PatsAt G w ls A c:=by
 obtain⟨h1,h2,h3,xs,h4,h5⟩:=h
 exact⟨h1,h2,h3,xs,h4.mono k,h5.mono fun _ _ ⟨A,c,q1,q2⟩=>⟨A,c,q1,q2.mono k⟩⟩
theorem PatsAt.at_ {ls:List (List (Bool × REl))} (h:PatsAt (Old w) w ls A c) (hb:Below w.heap.size w w'):PatsAt (Old w') w' ls A c:=(h.keeps (Keeps.below hb fun _ h=>h)).mono fun _ h=>Nat.lt_of_lt_of_le h hb.size
end
def MPQ (F:Nat→Prop) (w:World) (o:List (Option E)) (cs:List Value):Prop:=∃h,cs=[.pointer (some ⟨h,0,none⟩)]∧MatR F w h (chainM o)
theorem MPQ.keeps {F:Nat→Prop} {w w':World} {o:List (Option E)} {cs:List Value} (h:MPQ F w o cs) (k:Keeps F w w'):MPQ F w' o cs:=by
 obtain⟨g,h1,h2⟩:=h
 exact⟨g,h1,h2.keeps k⟩
theorem MPQ.mono {F G:Nat→Prop} {w:World} {o:List (Option E)} {cs:List Value} (h:MPQ F w o cs) (k:∀b,F b→G b):MPQ G w o cs:=by
 obtain⟨g,h1,h2⟩:=h
 exact⟨g,h1,h2.mono k⟩
def GivesMs (ps:List (List (Option E))) (w:World) (en:Ending) (w':World):Prop:=
 ∃A c xs,en = .returned (.slice A ps.length c)∧ps.length≤c∧c≤maxLen∧Row (Fr w.heap.size w') w' 1 A ps.length xs∧Cells 1 (MPQ (Fr w.heap.size w') w') ps xs∧Below w.heap.size w w'
def AnyElPost (w:World) (en:Ending) (w':World):Prop:=en = .returned (.agg #[.bool true,.pointer none,.pointer none,.pointer none,.pointer none])∧Below w.heap.size w w'
theorem anyElem_calls (w:World):Calls Tryz.prog 165 #[] w (AnyElPost w):=by
 go_enter Tryz.func165,Tryz.ntmps165
 go_wp2
 refine bodyPost_ret (results_cell_row rfl _ _ w.heap.size 283 #[.bool true,.pointer none,.pointer none,.pointer none,.pointer none] (0,0) _ rfl (Bk.new w _ _) Tryz.underlying283 rfl (by kernel_rfl)) rfl ?_
 exact⟨rfl,(Below.refl _ _).alloc (Nat.le_refl _) _⟩
theorem anyp_info:(Tryz.prog.info? 20).map (fun i=>(i.zero,i.size,i.bytes))=some (some .nilIface,1,16):=by kernel_rfl
theorem mptr_info:(Tryz.prog.info? 187).map (fun i=>(i.zero,i.size,i.bytes))=some (some (.pointer none),1,8):=by kernel_rfl
def TMtInv (w:World) (ps:List (List (Option E))) (s3 s13:Value) (W:World):Prop:=
 ∃(k:Nat) (us:List Value),s13 = .int .i64 (k:Int)∧k≤ps.length∧W.ownsRow w.heap.size 187 1 s3 k us∧Cells 1 (MPQ (Aloof (fun b=>w.heap.size≤b) W s3) W) (ps.take k) us∧Below w.heap.size w W
def TPrInv (wp:World) (p:List (Option E)) (s6 s19:Value) (W:World):Prop:=
 ∃(k:Nat) (us:List Value),s19 = .int .i64 (k:Int)∧k≤p.length∧W.ownsRow wp.heap.size 20 1 s6 k us∧Cells 1 (PartQ (Aloof (fun b=>wp.heap.size≤b) W s6) W) (p.take k) us∧Below wp.heap.size wp W
set_option maxRecDepth 100000 in
set_option maxHeartbeats 8000000 in
theorem toMatchers_calls {l:List (List (Bool × REl))} {A:Option Addr} {c:Nat} {w:World} (h:PatsAt (Old w) w l A c):Calls Tryz.prog 108 #[.slice A l.length c] w (GivesMs (l.map patP) w):=by
 obtain⟨h1,h2,h3,xs,h4,h5⟩:=h
 have h1':l.length*24≤140737488351232:=h1
 obtain⟨n,hn⟩:∃n,l.length=n:=⟨_,rfl⟩
 rw[hn] at h1' h4 ⊢
 have H7:=hide (And.intro h4 h5)
 have Hn:=hide hn
 obtain⟨i9,hi9,hz9,hs9,hb9⟩:=info_parts anyp_info
 obtain⟨i8,hi8,hz8,hs8,hb8⟩:=info_parts mptr_info
 clear h1 h2 h3 h4 h5 hn
 go_enter Tryz.func108,Tryz.ntmps108
 go_wp2_with fail
 go_loopw [3,13] (fun s3 s13 W=>TMtInv w (l.map patP) s3 s13 W) (fun _ s _=>n-(intOf s).toNat)
 case atStart=>exact⟨0,[],rfl,Nat.zero_le _,World.ownsRow_nil _ _ _ _,by rw[List.take_zero];exact Cells.nil_,Below.refl _ _⟩
 case round=>
  obtain⟨k,us,rfl,hk,hown,hus,hb⟩:=hrel
  rw[List.length_map,Hn.out] at hk
  have hki0:(0:Int)≤(k:Int):=Int.natCast_nonneg _
  obtain⟨oA,oc,rfl,hoc1,hoc2⟩:=own_form hown
  by_cases hlt:k<n
  ·have hki1:(k:Int)<(n:Int):=by omega
   have hlt':k<l.length:=by rw[Hn.out];exact hlt
   have hx:=H7.out.2.at_ hlt'
   have hsn:(l.map patP).take (k+1)=(l.map patP).take k++[patP l[k]]:=by rw[List.take_succ_eq_append_getElem (by rw[List.length_map];exact hlt')];simp
   generalize l[k]=p at *
   generalize hcs:(xs.drop (k*1)).take 1=fcs at hx
   obtain⟨pA,pc,rfl,p1,p2,p3,ys,p4,p5⟩:=hx
   obtain⟨rb,ro,rfl,hF1,hc⟩:=rown_at H7.out.1 hlt hcs
   have q0:=((bcell hb).1 _ _ hF1).trans (hc 0 _ rfl)
   rw[Nat.mul_one,Nat.add_zero] at q0
   have hrb:rb<w.heap.size:=hF1
   have hwe:w.heap.size≤wr.heap.size:=hb.size
   obtain⟨m,hm⟩:∃m,p.length=m:=⟨_,rfl⟩
   rw[hm] at p4 q0
   have hm47:m*176≤140737488351232:=by rw[←hm];exact p1
   have Hs:=hide (And.intro hown (And.intro hus (And.intro hb (And.intro hsn (And.intro hm (And.intro p4 p5))))))
   clear hown hus hb hsn hm p1 p2 p3 p4 p5 hcs hc hF1
   obtain⟨wp,hwp⟩:∃W,W=wr:=⟨_,rfl⟩
   subst hwp
   go_wp2_with fail
   go_loopw [6,19] (fun s6 s19 W=>TPrInv wp (patP p) s6 s19 W) (fun _ s _=>m-(intOf s).toNat)
   case atStart=>exact⟨0,[],rfl,Nat.zero_le _,World.ownsRow_nil _ _ _ _,by rw[List.take_zero];exact Cells.nil_,Below.refl _ _⟩
   case round=>
    obtain⟨j,vs,rfl,hj,hown2,hvs,hb2⟩:=hrel
    rw[patP_length,Hs.out.2.2.2.2.1] at hj
    have hji0:(0:Int)≤(j:Int):=Int.natCast_nonneg _
    have hwp:wp.heap.size≤wr.heap.size:=hb2.size
    obtain⟨rA,rc,rfl,hrc1,hrc2⟩:=own_form hown2
    by_cases hjl:j<m
    ·have hji1:(j:Int)<(m:Int):=by omega
     have hjl':j<p.length:=by rw[Hs.out.2.2.2.2.1];exact hjl
     have hx:=Hs.out.2.2.2.2.2.2.at_ hjl'
     have hsn2:(patP p).take (j+1)=(patP p).take j++[stepP p[j]]:=by rw[List.take_succ_eq_append_getElem (by rw[patP_length];exact hjl')];simp[patP]
     generalize p[j]=fx at *
     obtain⟨fb,fe⟩:=fx
     generalize hcs:(ys.drop (j*12)).take 12=fcs at hx
     obtain⟨es,rfl,hx⟩:=hx
     obtain⟨a0,a1,a2,a3,a4,a5,a6,a7,a8,a9,aa,ab,ac,ad,ae,af,ag,ah,ai,rfl⟩:=hx.form
     obtain⟨sb,so,rfl,hF2,hc⟩:=rown_at Hs.out.2.2.2.2.2.1 hjl hcs
     have hbw:Below w.heap.size w wr:=Hs.out.2.2.1.trans (hb2.mono hwe)
     have ec:=(bcell hbw).1
     have q0:=(ec _ _ hF2).trans (hc 0 _ rfl)
     have q1:=(ec _ _ hF2).trans (hc 1 _ rfl)
     have q2:=(ec _ _ hF2).trans (hc 2 _ rfl)
     have q3:=(ec _ _ hF2).trans (hc 3 _ rfl)
     have q4:=(ec _ _ hF2).trans (hc 4 _ rfl)
     have q5:=(ec _ _ hF2).trans (hc 5 _ rfl)
     have q6:=(ec _ _ hF2).trans (hc 6 _ rfl)
     have q7:=(ec _ _ hF2).trans (hc 7 _ rfl)
     have q8:=(ec _ _ hF2).trans (hc 8 _ rfl)
     have q9:=(ec _ _ hF2).trans (hc 9 _ rfl)
     have q10:=(ec _ _ hF2).trans (hc 10 _ rfl)
     have q11:=(ec _ _ hF2).trans (hc 11 _ rfl)
     rw[Nat.add_zero] at q0
     have hsb:sb<w.heap.size:=hF2
     have HE:=hide fun(W:World) (hb:Below w.heap.size w W)=>toElem_calls fe W _ (hx.at_ hb)
     have Hq:=hide (And.intro hown2 (And.intro hvs (And.intro hb2 (And.intro hsn2 hbw))))
     clear hown2 hvs hb2 hsn2 hx hcs hc ec hF2 hbw
     obtain⟨wo,hwo⟩:∃W,W=wr:=⟨_,rfl⟩
     subst hwo
     go_upto_region 9 with fail
     have hbA:Below wo.heap.size wo (wo.alloc (.cells #[.bool fb,.int .i64 a0,.string a1,.slice a2 a3 a4,.slice a5 a6 a7,.int .i64 a8,.int .i64 a9,.float .f64 aa,.string ab,.slice ac ad ae,.slice af ag ah,.int .i64 ai] 89)):=(Below.refl _ _).alloc (Nat.le_refl _) _
     have hX:=Bk.new wo 89 #[.bool fb,.int .i64 a0,.string a1,.slice a2 a3 a4,.slice a5 a6 a7,.int .i64 a8,.int .i64 a9,.float .f64 aa,.string ab,.slice ac ad ae,.slice af ag ah,.int .i64 ai]
     clear q0 q1 q2 q3 q4 q5 q6 q7 q8 q9 q10 q11
     generalize hwA:World.alloc wo _=wA at hbA hX ⊢
     obtain⟨xb,hxb⟩:∃xb,wo.heap.size=xb:=⟨_,rfl⟩
     rw[hxb] at hX
     try rw[hxb]
     have hwoA:wo.heap.size≤wA.heap.size:=hbA.size
     have hxl:=hX.lt
     have x0:=hX.cell 0
     have x1:=hX.cell 1
     have x2:=hX.cell 2
     have x3:=hX.cell 3
     have x4:=hX.cell 4
     have x5:=hX.cell 5
     have x6:=hX.cell 6
     have x7:=hX.cell 7
     have x8:=hX.cell 8
     have x9:=hX.cell 9
     have x10:=hX.cell 10
     have x11:=hX.cell 11
     simp at x0 x1 x2 x3 x4 x5 x6 x7 x8 x9 x10 x11
     have HA:=hide hbA
     clear hX hbA hwA
     cases fb
     ·have HN:=hide (HE.out wA (Hq.out.2.2.2.2.trans (HA.out.mono (Nat.le_trans hwe hwp))))
      go_wp2_with fail
      refine HN.out.mono ?_
      rintro en w3 ⟨ps,rfl,hp,hb3⟩
      obtain⟨p0,p1,p2,p3,rfl⟩:=hp.form
      have hb03:=HA.out.trans (hb3.mono hwoA)
      have hw3:wA.heap.size≤w3.heap.size:=hb3.size
      have hown3:=ownsRow_below Hq.out.1 hb03 (Nat.le_refl _)
      have hvs3:=aloof_below (Q:=PartQ) (fun h k=>PartQ.keeps h k) (fun h k=>PartQ.mono h k) Hq.out.2.1 hb03
      have hlo:=Hq.out.1.lt
      have H3:=hide (And.intro hown3 (And.intro hvs3 (And.intro (Hq.out.2.2.1.trans (hb03.mono hwp)) (And.intro hlo hp))))
      clear hb3 hb03 hown3 hvs3 hlo HN HE hp x0 x1 x2 x3 x4 x5 x6 x7 x8 x9 x10 x11
      go_wp2_with (at_builtin;go_loud (refine wpList_append_row _ rfl (.tmp 30) (.tmp 35) 292 rfl wp.heap.size 20 i9 _ 1 16 Tryz.underlying292 hi9 hz9 hs9 hb9 rfl (by omega) (.slice rA j rc) j vs rfl (H3.out.1.alloc _) (fun _=>True) (some ⟨w3.heap.size,0,none⟩) 1 1 [.iface 109 (.agg #[.pointer p0,.pointer p1,.pointer p2,.pointer p3])] rfl (Row.of_bkp (Bk.new w3 20 ([.iface 109 (.agg #[.pointer p0,.pointer p1,.pointer p2,.pointer p3])]:List Value).toArray) rfl trivial) (by simp[Value.oneCell']) (by omega) (by omega) (by rw[World.size_alloc];omega) ?_))
      intro v8 w8 hown8 hg8 hat8
      have hbB:Below w3.heap.size w3 (w3.alloc (.cells #[.iface 109 (.agg #[.pointer p0,.pointer p1,.pointer p2,.pointer p3])] 20)):=(Below.refl _ _).alloc (Nat.le_refl _) _
      have hitem:PartQ (Aloof (fun b=>wp.heap.size≤b) (w3.alloc (.cells #[.iface 109 (.agg #[.pointer p0,.pointer p1,.pointer p2,.pointer p3])] 20)) (.slice rA j rc)) (w3.alloc (.cells #[.iface 109 (.agg #[.pointer p0,.pointer p1,.pointer p2,.pointer p3])] 20)) (stepP (false,fe)) [.iface 109 (.agg #[.pointer p0,.pointer p1,.pointer p2,.pointer p3])]:=
       .inr ⟨fe.elem,p0,p1,p2,p3,rfl,rfl,(H3.out.2.2.2.2.keeps (Keeps.below hbB fun b hb=>hb.2)).mono fun b hb=>⟨by have h1:wA.heap.size≤b:=hb.1;show wp.heap.size≤b;omega,by rw[World.size_alloc];have:=hb.2;omega,fun e=>by have h1:wA.heap.size≤b:=hb.1;have:=(H3.out.2.2.2.1 b e).2;omega⟩⟩
      have hcel8:=aloof_step (Q:=PartQ) (fun h k=>PartQ.keeps h k) (fun h k=>PartQ.mono h k) (s':=v8) (aloof_below (Q:=PartQ) (fun h k=>PartQ.keeps h k) (fun h k=>PartQ.mono h k) H3.out.2.1 hbB) (Cells.one hitem rfl) hg8 (by rw[World.size_alloc];exact hat8)
      have hbw8:Below wp.heap.size wp w8:=(H3.out.2.2.1.trans (hbB.mono H3.out.2.2.1.size)).grown hg8 (by rw[World.size_alloc];omega) fun b e=>(H3.out.2.2.2.1 b e).1
      obtain⟨nA,nc,rfl,_,_⟩:=own_form hown8
      have Hx:=hide (show TPrInv wp (patP p) (.slice nA (j+1) nc) (.int .i64 ((j+1:Nat):Int)) w8 from⟨j+1,vs++[.iface 109 (.agg #[.pointer p0,.pointer p1,.pointer p2,.pointer p3])],rfl,by rw[patP_length,Hs.out.2.2.2.2.1];omega,hown8,by rw[Hq.out.2.2.2.1];exact hcel8,hbw8⟩)
      clear hown8 hg8 hat8 hbB hitem hcel8 hbw8 H3
      go_wp2_with fail
      exact⟨Hx.out,by simp[intOf];omega⟩
     ·have HN:=hide (anyElem_calls wA)
      go_wp2_with fail
      refine HN.out.mono ?_
      rintro en w3 ⟨rfl,hb3⟩
      have hb03:=HA.out.trans (hb3.mono hwoA)
      have hw3:wA.heap.size≤w3.heap.size:=hb3.size
      have hown3:=ownsRow_below Hq.out.1 hb03 (Nat.le_refl _)
      have hvs3:=aloof_below (Q:=PartQ) (fun h k=>PartQ.keeps h k) (fun h k=>PartQ.mono h k) Hq.out.2.1 hb03
      have hlo:=Hq.out.1.lt
      have H3:=hide (And.intro hown3 (And.intro hvs3 (And.intro (Hq.out.2.2.1.trans (hb03.mono hwp)) hlo)))
      clear hb3 hb03 hown3 hvs3 hlo HN x0 x1 x2 x3 x4 x5 x6 x7 x8 x9 x10 x11
      go_wp2_with (at_builtin;go_loud (refine wpList_append_row _ rfl (.tmp 25) (.tmp 28) 292 rfl wp.heap.size 20 i9 _ 1 16 Tryz.underlying292 hi9 hz9 hs9 hb9 rfl (by omega) (.slice rA j rc) j vs rfl (H3.out.1.alloc _) (fun _=>True) (some ⟨w3.heap.size,0,none⟩) 1 1 [.iface 283 (.agg #[.bool true,.pointer none,.pointer none,.pointer none,.pointer none])] rfl (Row.of_bkp (Bk.new w3 20 ([.iface 283 (.agg #[.bool true,.pointer none,.pointer none,.pointer none,.pointer none])]:List Value).toArray) rfl trivial) (by simp[Value.oneCell']) (by omega) (by omega) (by rw[World.size_alloc];omega) ?_))
      intro v8 w8 hown8 hg8 hat8
      have hbB:Below w3.heap.size w3 (w3.alloc (.cells #[.iface 283 (.agg #[.bool true,.pointer none,.pointer none,.pointer none,.pointer none])] 20)):=(Below.refl _ _).alloc (Nat.le_refl _) _
      have hitem:PartQ (Aloof (fun b=>wp.heap.size≤b) (w3.alloc (.cells #[.iface 283 (.agg #[.bool true,.pointer none,.pointer none,.pointer none,.pointer none])] 20)) (.slice rA j rc)) (w3.alloc (.cells #[.iface 283 (.agg #[.bool true,.pointer none,.pointer none,.pointer none,.pointer none])] 20)) (stepP (true,fe)) [.iface 283 (.agg #[.bool true,.pointer none,.pointer none,.pointer none,.pointer none])]:=.inl ⟨rfl,rfl⟩
      have hcel8:=aloof_step (Q:=PartQ) (fun h k=>PartQ.keeps h k) (fun h k=>PartQ.mono h k) (s':=v8) (aloof_below (Q:=PartQ) (fun h k=>PartQ.keeps h k) (fun h k=>PartQ.mono h k) H3.out.2.1 hbB) (Cells.one hitem rfl) hg8 (by rw[World.size_alloc];exact hat8)
      have hbw8:Below wp.heap.size wp w8:=(H3.out.2.2.1.trans (hbB.mono H3.out.2.2.1.size)).grown hg8 (by rw[World.size_alloc];omega) fun b e=>(H3.out.2.2.2 b e).1
      obtain⟨nA,nc,rfl,_,_⟩:=own_form hown8
      have Hx:=hide (show TPrInv wp (patP p) (.slice nA (j+1) nc) (.int .i64 ((j+1:Nat):Int)) w8 from⟨j+1,vs++[.iface 283 (.agg #[.bool true,.pointer none,.pointer none,.pointer none,.pointer none])],rfl,by rw[patP_length,Hs.out.2.2.2.2.1];omega,hown8,by rw[Hq.out.2.2.2.1];exact hcel8,hbw8⟩)
      clear hown8 hg8 hat8 hbB hitem hcel8 hbw8 H3
      go_wp2_with fail
      exact⟨Hx.out,by simp[intOf];omega⟩
    ·have hjm:j=m:=by omega
     subst hjm
     have hji1:¬((j:Nat):Int)<(j:Int):=by omega
     have htk:(patP p).take j=patP p:=List.take_of_length_le (by rw[patP_length,Hs.out.2.2.2.2.1];exact Nat.le_refl _)
     rw[htk] at hvs
     have hpl:(patP p).length=j:=by rw[patP_length,Hs.out.2.2.2.2.1]
     have hlo:=hown2.lt
     have HPx:=hide (prefix_calls (F:=fun b=>wp.heap.size≤b∧b<wr.heap.size) (w:=wr) (pat:=patP p) (A:=rA) (c:=rc) (us:=vs) (fun b hb=>hb.2) (by rw[hpl];exact Row.of_own hown2 fun b hb=>hlo b hb) (hvs.mono fun _ _ h=>PartQ.mono h fun b hb=>⟨hb.1,hb.2.1⟩) (by rw[hpl];unfold R47;omega))
     rw[hpl] at HPx
     have Hb2:=hide hb2
     clear hown2 hvs hb2 htk hpl hlo
     go_wp2_with fail
     refine HPx.out.mono ?_
     rintro en w3 ⟨g,rfl,hmr,hb3⟩
     have hb03:Below wp.heap.size wp w3:=Hb2.out.trans (hb3.mono hwp)
     have hw3:wr.heap.size≤w3.heap.size:=hb3.size
     have hown3:=ownsRow_below Hs.out.1 hb03 (Nat.le_refl _)
     have hvs3:=aloof_below (Q:=MPQ) (fun h k=>MPQ.keeps h k) (fun h k=>MPQ.mono h k) Hs.out.2.1 hb03
     have hlo:=Hs.out.1.lt
     have H3:=hide (And.intro hown3 (And.intro hvs3 (And.intro (Hs.out.2.2.1.trans (hb03.mono hwe)) (And.intro hlo hmr))))
     clear hb3 hb03 hown3 hvs3 hlo HPx hmr Hb2
     go_wp2_with (at_builtin;go_loud (refine wpList_append_row _ rfl (.tmp 45) (.tmp 47) 192 rfl w.heap.size 187 i8 _ 1 8 Tryz.underlying192 hi8 hz8 hs8 hb8 rfl (by omega) (.slice oA k oc) k us rfl (H3.out.1.alloc _) (fun _=>True) (some ⟨w3.heap.size,0,none⟩) 1 1 [.pointer (some ⟨g,0,none⟩)] rfl (Row.of_bkp (Bk.new w3 187 ([.pointer (some ⟨g,0,none⟩)]:List Value).toArray) rfl trivial) (by simp[Value.oneCell']) (by omega) (by omega) (by rw[World.size_alloc];omega) ?_))
     intro v8 w8 hown8 hg8 hat8
     have hbB:Below w3.heap.size w3 (w3.alloc (.cells #[.pointer (some ⟨g,0,none⟩)] 187)):=(Below.refl _ _).alloc (Nat.le_refl _) _
     have hFl:∀b,((wp.heap.size≤b∧b<wr.heap.size)∨Fr wr.heap.size w3 b)→wp.heap.size≤b∧b<w3.heap.size:=fun b hb=>by
      rcases hb with h1 | h1
      ·exact⟨h1.1,by omega⟩
      ·have h2:wr.heap.size≤b:=h1.1
       exact⟨by omega,h1.2⟩
     have hitem:MPQ (Aloof (fun b=>w.heap.size≤b) (w3.alloc (.cells #[.pointer (some ⟨g,0,none⟩)] 187)) (.slice oA k oc)) (w3.alloc (.cells #[.pointer (some ⟨g,0,none⟩)] 187)) (patP p) [.pointer (some ⟨g,0,none⟩)]:=
      ⟨g,rfl,(H3.out.2.2.2.2.keeps (Keeps.below hbB fun b hb=>(hFl b hb).2)).mono fun b hb=>⟨by have:=(hFl b hb).1;show w.heap.size≤b;omega,by rw[World.size_alloc];have:=(hFl b hb).2;omega,fun e=>by have:=(hFl b hb).1;have:=(H3.out.2.2.2.1 b e).2;omega⟩⟩
     have hcel8:=aloof_step (Q:=MPQ) (fun h k=>MPQ.keeps h k) (fun h k=>MPQ.mono h k) (s':=v8) (aloof_below (Q:=MPQ) (fun h k=>MPQ.keeps h k) (fun h k=>MPQ.mono h k) H3.out.2.1 hbB) (Cells.one hitem rfl) hg8 (by rw[World.size_alloc];exact hat8)
     have hbw8:Below w.heap.size w w8:=(H3.out.2.2.1.trans (hbB.mono H3.out.2.2.1.size)).grown hg8 (by rw[World.size_alloc];omega) fun b e=>(H3.out.2.2.2.1 b e).1
     obtain⟨nA,nc,rfl,_,_⟩:=own_form hown8
     have Hx:=hide (show TMtInv w (l.map patP) (.slice nA (k+1) nc) (.int .i64 ((k+1:Nat):Int)) w8 from⟨k+1,us++[.pointer (some ⟨g,0,none⟩)],rfl,by rw[List.length_map,Hn.out];omega,hown8,by rw[Hs.out.2.2.2.1];exact hcel8,hbw8⟩)
     clear hown8 hg8 hat8 hbB hitem hcel8 hbw8 H3 hFl
     go_wp2_with fail
     exact⟨Hx.out,by simp[intOf];omega⟩
  ·have hke:k=n:=by omega
   subst hke
   have hki1:¬((k:Nat):Int)<(k:Int):=by omega
   have htk:(l.map patP).take k=l.map patP:=List.take_of_length_le (by rw[List.length_map,Hn.out];exact Nat.le_refl _)
   rw[htk] at hus
   have hpl:(l.map patP).length=k:=by rw[List.length_map,Hn.out]
   have hlo:=hown.lt
   have Hf:=hide (show GivesMs (l.map patP) w (.returned (.slice oA k oc)) wr from⟨oA,oc,us,by rw[hpl],by rw[hpl];exact hoc1,hoc2,by rw[hpl];exact Row.of_own hown fun b hb=>hlo b hb,hus.mono fun _ _ h=>MPQ.mono h fun b hb=>⟨hb.1,hb.2.1⟩,hb⟩)
   clear hown hus hb htk hpl hlo
   go_wp2
   go_ret
   exact Hf.out
end Go.Proofs.YtbicoknghdgahaaGreat
namespace Go.Proofs.YtbicoknghdgahaaGreat
theorem pathsK_append (a b:List (E × St)):St.pathsK (a++b)=St.pathsK a++St.pathsK b:=by
 induction a with
 | nil=>rfl
 | cons k a ih=>obtain⟨e,s⟩:=k;rw[List.cons_append,St.pathsK,St.pathsK,ih,List.append_assoc]
end Go.Proofs.YtbicoknghdgahaaGreat
namespace Go.Proofs.YtbicoknghdgahaaGreat
open Go.RowKit
attribute [local go_sem] run_store_float
def SZInv (w:World) (ks:List (E × St)) (s3 s11:Value) (W:World):Prop:=∃k:Nat,s11 = .int .i64 (k:Int)∧s3 = .int .i64 (((St.pathsK (ks.take k)).length:Nat):Int)∧k≤ks.length∧Below w.heap.size w W
theorem pathsK_kid {ks:List (E × St)} {k:E × St} (hk:k ∈ ks):k.2.paths.length≤(St.pathsK ks).length:=by
 obtain⟨i,hi,rfl⟩:=List.getElem_of_mem hk
 have:=pathsK_part ks (List.getElem?_eq_getElem hi)
 omega
theorem pathsK_take {ks:List (E × St)} (k:Nat):(St.pathsK (ks.take k)).length≤(St.pathsK ks).length:=by
 have h:St.pathsK ks=St.pathsK (ks.take k)++St.pathsK (ks.drop k):=by rw[←pathsK_append,List.take_append_drop]
 rw[h,List.length_append]
 omega
set_option maxRecDepth 100000 in
set_option maxHeartbeats 4000000 in
theorem nmSize_calls {ks:List (E × St)} (IH:∀k ∈ ks,∀{W:World} {gk:Nat},SetR (Old W) W gk k.2→Calls Tryz.prog 201 #[.pointer (some ⟨gk,0,none⟩)] W (CmpPost ((k.2.paths.length:Nat):Int) W))
  {w:World} {g:Nat} {KA:Option Addr} {kc:Nat} {ys:List Value} (m0:w.cell? ⟨g,1,none⟩=some (.slice KA ks.length kc)) (hg:g<w.heap.size) (h47:ks.length*40≤R47) (hr:Row (Old w) w 5 KA ks.length ys) (hx:Cells 5 (KQ (Old w) w) ks ys) (hN:(St.pathsK ks).length≤N38) :
  Calls Tryz.prog 193 #[.pointer (some ⟨g,1,none⟩)] w (CmpPost (((St.pathsK ks).length:Nat):Int) w):=by
 have h47':ks.length*40≤140737488351232:=h47
 have hN':(St.pathsK ks).length≤274877906944:=hN
 have H7:=hide (And.intro hr (And.intro hx (And.intro m0 hg)))
 have Hih:=hide IH
 obtain⟨r,hrr⟩:∃r,(St.pathsK ks).length=r:=⟨_,rfl⟩
 rw[hrr] at hN' ⊢
 have Hr:=hide hrr
 clear hr hx hrr IH h47 hN
 go_enter Tryz.func193,Tryz.ntmps193
 go_wp2_with fail
 clear m0
 go_loopw [3,11] (fun s3 s11 W=>SZInv w ks s3 s11 W) (fun _ s _=>ks.length-(intOf s).toNat)
 case atStart=>exact⟨0,rfl,by simp[St.pathsK],Nat.zero_le _,Below.refl _ _⟩
 case round=>
  obtain⟨k,rfl,rfl,hk,hb⟩:=hrel
  have hki0:(0:Int)≤(k:Int):=Int.natCast_nonneg _
  by_cases hlt:k<ks.length
  ·have hki1:(k:Int)<(ks.length:Int):=by omega
   have hx:=H7.out.2.1.at_ hlt
   have hmem:=List.getElem_mem hlt
   have hsn:ks.take (k+1)=ks.take k++[ks[k]]:=List.take_succ_eq_append_getElem hlt
   have hle:=pathsK_take (ks:=ks) (k+1)
   have hsum:(St.pathsK (ks.take (k+1))).length=(St.pathsK (ks.take k)).length+(ks[k]).2.paths.length:=by rw[hsn,pathsK_append,List.length_append,pathsK_cons];simp[St.pathsK]
   rw[Hr.out] at hle
   generalize ks[k]=fx at *
   generalize hcs:(ys.drop (k*5)).take 5=fcs at hx
   obtain⟨p0,p1,p2,p3,gk,rfl,hpe,hset⟩:=hx.form
   obtain⟨rb,ro,rfl,hF,hc⟩:=rown_at H7.out.1 hlt hcs
   have ec:=(bcell hb).1
   have q0:=(ec _ _ hF).trans (hc 0 _ rfl)
   have q1:=(ec _ _ hF).trans (hc 1 _ rfl)
   have q2:=(ec _ _ hF).trans (hc 2 _ rfl)
   have q3:=(ec _ _ hF).trans (hc 3 _ rfl)
   have q4:=(ec _ _ hF).trans (hc 4 _ rfl)
   rw[Nat.add_zero] at q0
   have hrb:rb<w.heap.size:=hF
   have HE:=hide fun(W:World) (hb:Below w.heap.size w W)=>Hih.out fx hmem (hset.at_ hb)
   obtain⟨u,hu⟩:∃u,(St.pathsK (ks.take k)).length=u:=⟨_,rfl⟩
   obtain⟨v,hv⟩:∃v,fx.2.paths.length=v:=⟨_,rfl⟩
   rw[hu,hv] at hsum
   rw[hv] at HE
   have huv:u+v≤274877906944:=by omega
   rw[hu]
   have Hq:=hide (And.intro hb hsum)
   have hwe:w.heap.size≤wr.heap.size:=hb.size
   clear hb hsn hmem hx hset hpe hcs hc ec hF hu hv hle hsum
   obtain⟨wo,hwo⟩:∃W,W=wr:=⟨_,rfl⟩
   subst hwo
   go_upto_region 5 with fail
   have hbA:Below wo.heap.size wo (wo.alloc (.cells #[.pointer p0,.pointer p1,.pointer p2,.pointer p3,.pointer (some ⟨gk,0,none⟩)] 214)):=(Below.refl _ _).alloc (Nat.le_refl _) _
   have hX:=Bk.new wo 214 #[.pointer p0,.pointer p1,.pointer p2,.pointer p3,.pointer (some ⟨gk,0,none⟩)]
   clear q0 q1 q2 q3 q4
   generalize hw1:World.alloc wo _=w1 at hbA hX ⊢
   have x4:=hX.cell 4
   simp at x4
   have H1:=hide (Hq.out.1.trans (hbA.mono hwe))
   clear hw1 hbA hX
   go_wp2_with fail
   refine(HE.out w1 H1.out).mono ?_
   rintro en w2 ⟨rfl,hb2⟩
   have H2:=hide (And.intro (H1.out.trans (hb2.mono H1.out.size)) Hq.out.2)
   clear hb2 HE H1 x4 Hq
   go_wp2_with fail
   exact⟨⟨k+1,by go_num,by rw[H2.out.2];go_num,by omega,H2.out.1⟩,by simp[intOf];omega⟩
  ·have hke:k=ks.length:=by omega
   subst hke
   have hki1:¬((ks.length:Nat):Int)<(ks.length:Int):=by omega
   rw[List.take_of_length_le (Nat.le_refl _),Hr.out]
   have H3:=hide hb
   clear hb Hr
   go_wp2
   go_ret
   exact⟨rfl,H3.out⟩
set_option maxRecDepth 100000 in
set_option maxHeartbeats 4000000 in
theorem setSizeAll:∀(s:St) {w:World} {g:Nat},SetR (Old w) w g s→s.paths.length≤N38→Calls Tryz.prog 201 #[.pointer (some ⟨g,0,none⟩)] w (CmpPost ((s.paths.length:Nat):Int) w)
 | .mk m ks,w,g,h,hN=>by
  have hpl:(St.mk m ks).paths.length=m.length+(St.pathsK ks).length:=by rw[St.paths,List.length_append,List.length_map]
  have IH:∀k ∈ ks,∀{W:World} {gk:Nat},SetR (Old W) W gk k.2→Calls Tryz.prog 201 #[.pointer (some ⟨gk,0,none⟩)] W (CmpPost ((k.2.paths.length:Nat):Int) W):=
   fun k hk _ _ hs=>have hlt:SizeOf.sizeOf k.2<SizeOf.sizeOf (St.mk m ks):=kid_lt (s:=.mk m ks) hk;setSizeAll k.2 hs (by have:=pathsK_kid hk;omega)
  obtain⟨MA,KA,mc,kc,xs,ys,a1,a2,a3,a4,a5,a6,a7,a8,a9,a10,a11,a12⟩:=h.parts
  simp only[St.mem,St.kids] at a2 a3 a4 a5 a7 a9 a10 a11 a12
  have ga0:=a2.cell 0
  have ga1:=a2.cell 1
  simp at ga0 ga1
  have hg:g<w.heap.size:=a1
  have HS:=hide fun(W:World) (hc:W.cell? ⟨g,0,none⟩=some (.slice MA m.length mc))=>esSizeC_calls (w:=W) (g:=g) (o:=0) hc
  have HN:=hide (nmSize_calls (w:=w.drew) IH ga1 hg a4 (a10.keeps fun _ _=>rfl) (a12.mono fun _ _ h=>KQ.keeps h fun _ _=>rfl) (by omega))
  have hN':(St.mk m ks).paths.length≤274877906944:=hN
  have Hga:=hide (show w.drew.cell? ⟨g,0,none⟩=some (.slice MA m.length mc) from ga0)
  rw[hpl] at hN' ⊢
  clear h IH a1 a2 a3 a4 a5 a6 a7 a8 a9 a10 a11 a12 ga0 ga1 hN hpl
  generalize (St.pathsK ks).length=n at *
  generalize m.length=n1 at *
  go_enter Tryz.func201,Tryz.ntmps201
  go_wp2_with fail
  refine wp_region_head 8 (fun _=>True) (by rfl) (by kernel_rfl) ?_
  have hS0:(fun _:World=>True) w.drew:=trivial
  iterate 3
   refine HT.nx (v:=?_) rfl (by kernel_rfl) (fun _ _ _ h=>h) (Or.inl ⟨by rfl,?_⟩) ‹_› ?_
   rotate_left
   ·intro W hSw;go_simp;with_reducible rfl
   simp only[Act.put,zzA,zzZ,zzS]
  refine HT.take 4 (v:=?_) rfl (by kernel_rfl) (fun _ _ _ h=>h) (Or.inl ⟨by rfl,?_⟩) ‹_› ?_
  rotate_left
  ·intro W hSw;go_simp;with_reducible rfl
  simp only[Act.put,zzA,zzZ,zzS]
  refine HT.take 5 (v:=?_) rfl (by kernel_rfl) (fun _ _ _ h=>h) (Or.inl ⟨by rfl,?_⟩) ‹_› ?_
  rotate_left
  ·intro W hSw;go_simp;with_reducible rfl
  simp only[Act.put,zzA,zzZ,zzS]
  refine HT.take 6 (v:=?_) rfl (by kernel_rfl) (fun _ _ _ h=>h) (Or.inl ⟨by rfl,?_⟩) ‹_› ?_
  rotate_left
  ·intro W hSw;go_simp;with_reducible rfl
  simp only[Act.put,zzA,zzZ,zzS]
  refine HT.one 3 rfl (by kernel_rfl) (by rfl) (fun K hK=>?_)
  go_simp
  refine(HS.out _ Hga.out).mono ?_
  rintro en w1 ⟨rfl,rfl⟩
  go_simp
  refine hK.out _ _ trivial ?_
  clear hK K
  refine HT.one 7 rfl (by kernel_rfl) (by rfl) (fun K hK=>?_)
  go_simp
  refine HN.out.mono ?_
  rintro en w2 ⟨rfl,hb2⟩
  have H2:=hide (below_drew' hb2)
  clear hb2 HN HS Hga
  go_simp
  refine hK.out _ _ trivial ?_
  clear hK K hS0
  refine HT.done (by kernel_rfl) ?_
  simp only[List.drop_succ_cons,List.drop_zero]
  go_wp2
  go_ret
  exact⟨by go_num,H2.out⟩
termination_by s=>s
decreasing_by assumption
theorem setSize_calls {s:St} {w:World} {g:Nat} (h:SetR (Old w) w g s) (hN:s.paths.length≤N38):Calls Tryz.prog 201 #[.pointer (some ⟨g,0,none⟩)] w (CmpPost ((s.paths.length:Nat):Int) w):=setSizeAll s h hN
end Go.Proofs.YtbicoknghdgahaaGreat
