import Derived.Test.YtbicoknghdgahaaGreatKB11
import Derived.Test.YtbicoknghdgahaaGreatRA03
set_option linter.unusedVariables false
set_option linter.unusedSimpArgs false
namespace Go.Proofs.YtbicoknghdgahaaGreat
open Go.RowKit
attribute [local go_sem] run_store_float
def ppre (p q:List E):Bool:=peqv (p.take q.length) q
theorem ppre_long {p q:List E} (h:p.length<q.length):ppre p q=false:=peqv_len (by rw[List.length_take];omega)
set_option maxRecDepth 100000 in
set_option maxHeartbeats 4000000 in
theorem hasPrefix_calls {l m:List REl} {A B:Option Addr} {c d:Nat} {w:World} (h:PathAt (Old w) w l A c) (h':PathAt (Old w) w m B d) :
  Calls Tryz.prog 56 #[.slice A l.length c,.slice B m.length d] w (EqPost (ppre (pel l) (pel m)) w):=by
 obtain⟨h1,h2,h3,xs,h4,h5⟩:=h
 obtain⟨h1',h2',h3',ys,h4',h5'⟩:=h'
 have hl47:l.length*168≤140737488351232:=h1
 have hm47:m.length*168≤140737488351232:=h1'
 have H7:=hide (And.intro h4 (And.intro h5 (And.intro h4' h5')))
 by_cases hlen:l.length<m.length
 ·rw[ppre_long (by rw[pel_length,pel_length];exact hlen)]
  have hli:(l.length:Int)<(m.length:Int):=by omega
  clear h1 h4 h5 h1' h4' h5'
  go_enter Tryz.func56,Tryz.ntmps56
  go_wp2
  go_ret
  exact⟨rfl,Below.refl _ _⟩
 ·have hli:¬(l.length:Int)<(m.length:Int):=by omega
  obtain⟨r,hr⟩:∃r,ppre (pel l) (pel m)=r:=⟨_,rfl⟩
  rw[hr]
  unfold ppre at hr
  rw[pel_length] at hr
  have Hr:=hide hr
  have Hlen:=hide hlen
  clear h1 h4 h5 h1' h4' h5' hr hlen h2 h2' h3 h3'
  go_enter Tryz.func56,Tryz.ntmps56
  go_wp2_with fail
  go_loopw [13] (fun s W=>PQInv w ((pel l).take m.length) (pel m) s W) (fun s _=>m.length-(intOf s).toNat)
  case atStart=>exact⟨0,rfl,Nat.zero_le _,by simp,Below.refl _ _⟩
  case round=>
   obtain⟨k,rfl,hk1,heq,hb⟩:=hrel
   have hki0:(0:Int)≤(k:Int):=Int.natCast_nonneg _
   by_cases hp:k<m.length
   ·have hle:=Hlen.out
    have hp1:k<l.length:=by omega
    have hpi:(k:Int)<(m.length:Int):=by omega
    have hpl:(k:Int)<(l.length:Int):=by omega
    have hrd:=peqv_round heq (by rw[List.length_take,pel_length];omega) (by rw[pel_length];exact hp)
    have e1:((pel l).take m.length)[k]'(by rw[List.length_take,pel_length];omega)=(l[k]).elem:=by rw[List.getElem_take];simp[pel]
    have e2:(pel m)[k]'(by rw[pel_length];exact hp)=(m[k]).elem:=by simp[pel]
    rw[e1,e2] at hrd
    clear e1 e2
    have hx:=H7.out.2.1.at_ hp1
    have hy:=H7.out.2.2.2.at_ hp
    generalize l[k]=x at *
    generalize m[k]=y at *
    generalize hcs:(xs.drop (k*11)).take 11=fcs at hx
    generalize hds:(ys.drop (k*11)).take 11=gcs at hy
    obtain⟨a0,a1,a2,a3,a4,a5,a6,a7,a8,a9,aa,ab,ac,ad,ae,af,ag,ah,ai,rfl⟩:=hx.form
    obtain⟨b0,b1,b2,b3,b4,b5,b6,b7,b8,b9,ba,bb,bc,bd,be,bf,bg,bh,bi,rfl⟩:=hy.form
    obtain⟨rb,ro,rfl,hF,hc⟩:=rown_at H7.out.1 hp1 hcs
    obtain⟨sb,so,rfl,hG,hd⟩:=rown_at H7.out.2.2.1 hp hds
    have ec:=(bcell hb).1
    have m0:=(ec _ _ hF).trans (hc 0 _ rfl)
    have m1:=(ec _ _ hF).trans (hc 1 _ rfl)
    have m2:=(ec _ _ hF).trans (hc 2 _ rfl)
    have m3:=(ec _ _ hF).trans (hc 3 _ rfl)
    have m4:=(ec _ _ hF).trans (hc 4 _ rfl)
    have m5:=(ec _ _ hF).trans (hc 5 _ rfl)
    have m6:=(ec _ _ hF).trans (hc 6 _ rfl)
    have m7:=(ec _ _ hF).trans (hc 7 _ rfl)
    have m8:=(ec _ _ hF).trans (hc 8 _ rfl)
    have m9:=(ec _ _ hF).trans (hc 9 _ rfl)
    have m10:=(ec _ _ hF).trans (hc 10 _ rfl)
    have n0:=(ec _ _ hG).trans (hd 0 _ rfl)
    have n1:=(ec _ _ hG).trans (hd 1 _ rfl)
    have n2:=(ec _ _ hG).trans (hd 2 _ rfl)
    have n3:=(ec _ _ hG).trans (hd 3 _ rfl)
    have n4:=(ec _ _ hG).trans (hd 4 _ rfl)
    have n5:=(ec _ _ hG).trans (hd 5 _ rfl)
    have n6:=(ec _ _ hG).trans (hd 6 _ rfl)
    have n7:=(ec _ _ hG).trans (hd 7 _ rfl)
    have n8:=(ec _ _ hG).trans (hd 8 _ rfl)
    have n9:=(ec _ _ hG).trans (hd 9 _ rfl)
    have n10:=(ec _ _ hG).trans (hd 10 _ rfl)
    rw[Nat.add_zero] at m0 n0
    obtain⟨v,hv⟩:∃v,E.eqv x.elem y.elem=v:=⟨_,rfl⟩
    have HC:=hide fun(W:World) (hb:Below w.heap.size w W)=>specEqualElems_calls x y W _ _ (hx.at_ hb) (hy.at_ hb)
    rw[hv] at HC hrd
    rw[Hr.out] at hrd
    have Hrd:=hide hrd
    have Hb:=hide hb
    clear hb hx hy hcs hds hc hd ec hF hG hrd heq hv hp1 hk1 hle
    go_wp2_with fail
    go_still_tail 8,(by kernel_rfl)
    change wpList _ _ _ _ _ wr.drew
    go_wp2_with fail
    refine(HC.out wr.drew (below_drew Hb.out)).mono ?_
    rintro e w1 ⟨rfl,hb1⟩
    have H1:=hide (Hb.out.trans ((below_drew' hb1).mono Hb.out.size))
    clear hb1 m0 m1 m2 m3 m4 m5 m6 m7 m8 m9 m10 n0 n1 n2 n3 n4 n5 n6 n7 n8 n9 n10
    cases v
    ·have hs:=Hrd.out.2 rfl
     subst hs
     clear Hrd HC
     go_wp2
     go_ret
     exact⟨rfl,H1.out⟩
    ·have hs:=Hrd.out.1 rfl
     have Hs:=hide (Hr.out.trans hs)
     clear hs Hrd HC
     go_wp2_with fail
     exact⟨⟨k+1,by go_num,by rw[List.length_take,pel_length];have:=Hlen.out;omega,Hs.out,H1.out⟩,by simp[intOf];omega⟩
   ·have hpi:¬(k:Int)<(m.length:Int):=by omega
    have hr1:r=true:=by
     have e1:((pel l).take m.length).drop k=[]:=List.drop_eq_nil_of_le (by rw[List.length_take];omega)
     have e2:(pel m).drop k=[]:=List.drop_eq_nil_of_le (by rw[pel_length];omega)
     rw[Hr.out,e1,e2] at heq
     exact heq
    subst hr1
    have Hb:=hide hb
    clear hb heq hk1
    go_wp2
    go_ret
    exact⟨rfl,Hb.out⟩
end Go.Proofs.YtbicoknghdgahaaGreat
namespace Go.Proofs.YtbicoknghdgahaaGreat
open Go.RowKit
attribute [local go_sem] run_store_float
structure ESet (F:Nat→Prop) (w:World) (g:Nat) (l:List E) (s:Value) (xs:List Value):Prop where
 bk:Bk w g 124 #[s]
 own:w.ownsRow 0 109 4 s l.length xs
 at_:Cells 4 (PEAt F w) l xs
 sep:s.ownBlock≠some g
def EInsPost (F:Nat→Prop) (w:World) (g:Nat) (l':List E) (s:Value) (en:Ending) (w':World):Prop:=
 en = .returned (.tuple #[])∧∃s' xs',ESet F w' g l' s' xs'∧(s'.ownBlock=s.ownBlock∨∃b,s'.ownBlock=some b∧w.heap.size≤b)∧Grown2 w w' g s.ownBlock
theorem esInsert_calls {F:Nat→Prop} {w:World} {g:Nat} {l:List E} {s:Value} {xs:List Value} {e:E} {p0 p1 p2 p3:Option Addr} (hs:ESet F w g l s xs) (hF:∀b,F b→b<w.heap.size∧b≠g∧s.ownBlock≠some b)
  (hpe:PEAt F w e [.pointer p0,.pointer p1,.pointer p2,.pointer p3]) (hok:POk l) (he:e.Ok) (hso:SortC E.cmp l) (hn:(l.length+1)*32≤R47) :
  Calls Tryz.prog 126 #[.pointer (some ⟨g,0,none⟩),.agg #[.pointer p0,.pointer p1,.pointer p2,.pointer p3]] w (EInsPost F w g (insC E.cmp e l) s):=
 (esInsertC_calls (t:=124) (cs:=#[s]) (o:=0) ⟨hs.bk,rfl,hs.own,hs.at_,hs.sep⟩ hF hpe hok he hso hn).mono fun en w' ⟨h1,s',xs',h2,h3,h4⟩=>⟨h1,s',xs',⟨by simpa using h2.bk,h2.own,h2.at_,h2.sep⟩,h3,h4⟩
end Go.Proofs.YtbicoknghdgahaaGreat
namespace Go.Proofs.YtbicoknghdgahaaGreat
open Go.RowKit
attribute [local go_sem] run_store_float
theorem ESet.mono {F G:Nat→Prop} {w:World} {g:Nat} {l:List E} {s:Value} {xs:List Value} (h:ESet F w g l s xs) (k:∀b,F b→G b):ESet G w g l s xs:=⟨h.bk,h.own,h.at_.mono fun _ _ h=>h.mono k,h.sep⟩
theorem ESet.below {F:Nat→Prop} {w w':World} {g:Nat} {l:List E} {s:Value} {xs:List Value} (h:ESet F w g l s xs) (hF:∀b,F b→b<w.heap.size) (hb:Below w.heap.size w w'):ESet F w' g l s xs:=
 ⟨h.bk.below hb h.bk.lt,ownsRow_below h.own hb (Nat.le_refl _),h.at_.mono fun _ _ h=>h.keeps (Keeps.below hb hF),h.sep⟩
end Go.Proofs.YtbicoknghdgahaaGreat
namespace Go.Proofs.YtbicoknghdgahaaGreat
open Go.RowKit
def MemAt (F:Nat→Prop) (w:World) (b h:Nat) (o:Option E):Prop:=F b∧∃p0 p1 p2 p3:Option Addr,Bk w b 285 #[.bool o.isNone,.pointer p0,.pointer p1,.pointer p2,.pointer p3,.pointer (some ⟨h,0,none⟩)]∧∀e,o=some e→PEAt F w e [.pointer p0,.pointer p1,.pointer p2,.pointer p3]
inductive MatR (F:Nat→Prop) (w:World):Nat→Mt→Prop
 | mk {g:Nat} {all:Bool} {ms:List (Option E × Mt)} {A:Option Addr} {c:Nat} {xs:List Value} {G H:Nat→Nat}:F g→Bk w g 280 #[.bool all,.slice A ms.length c]→ms.length*8≤R47→ms.length≤c→c≤maxLen→Row F w 1 A ms.length xs →
  (∀(i:Nat) k,ms[i]? = some k→(xs.drop (i*1)).take 1=[.pointer (some ⟨G i,0,none⟩)]∧MemAt F w (G i) (H i) k.1)→(∀(i:Nat) k,ms[i]? = some k→MatR F w (H i) k.2)→MatR F w g (.mk all ms)
section
variable {F G:Nat→Prop} {w w':World} {g:Nat} {x:Mt}
theorem MemAt.keeps {b h:Nat} {o:Option E} (q:MemAt F w b h o) (k:Keeps F w w'):MemAt F w' b h o:=by
 obtain⟨h1,p0,p1,p2,p3,h2,h3⟩:=q
 exact⟨h1,p0,p1,p2,p3,(k _ h1).trans h2,fun e he=>(h3 e he).keeps k⟩
theorem MemAt.mono {b h:Nat} {o:Option E} (q:MemAt F w b h o) (k:∀b,F b→G b):MemAt G w b h o:=by
 obtain⟨h1,p0,p1,p2,p3,h2,h3⟩:=q
 exact⟨k _ h1,p0,p1,p2,p3,h2,fun e he=>(h3 e he).mono k⟩
theorem MatR.keeps (h:MatR F w g x) (k:Keeps F w w'):MatR F w' g x:=by
 induction h with
 | mk h1 h2 h3 h4 h5 h6 h7 h8 ih=>exact .mk h1 ((k _ h1).trans h2) h3 h4 h5 (h6.keeps k) (fun i y hy=>⟨(h7 i y hy).1,(h7 i y hy).2.keeps k⟩) ih
theorem MatR.mono (h:MatR F w g x) (k:∀b,F b→G b):MatR G w g x:=by
 induction h with
 | mk h1 h2 h3 h4 h5 h6 h7 h8 ih=>exact .mk (k _ h1) h2 h3 h4 h5 (h6.mono k) (fun i y hy=>⟨(h7 i y hy).1,(h7 i y hy).2.mono k⟩) ih
theorem MatR.at_ (h:MatR (Old w) w g x) (hb:Below w.heap.size w w'):MatR (Old w') w' g x:=(h.keeps (Keeps.below hb fun _ h=>h)).mono fun _ h=>Nat.lt_of_lt_of_le h hb.size
end
def MQ (F:Nat→Prop) (w:World) (k:Option E × Mt) (cs:List Value):Prop:=∃b h,cs=[.pointer (some ⟨b,0,none⟩)]∧MemAt F w b h k.1∧MatR F w h k.2
theorem MQ.keeps {F:Nat→Prop} {w w':World} {k:Option E × Mt} {cs:List Value} (h:MQ F w k cs) (hk:Keeps F w w'):MQ F w' k cs:=by
 obtain⟨b,g,e,h1,h2⟩:=h
 exact⟨b,g,e,h1.keeps hk,h2.keeps hk⟩
theorem MQ.mono {F G:Nat→Prop} {w:World} {k:Option E × Mt} {cs:List Value} (h:MQ F w k cs) (hk:∀b,F b→G b):MQ G w k cs:=by
 obtain⟨b,g,e,h1,h2⟩:=h
 exact⟨b,g,e,h1.mono hk,h2.mono hk⟩
theorem MatR.parts {F:Nat→Prop} {w:World} {g:Nat} {x:Mt} (h:MatR F w g x):∃(A:Option Addr) (c:Nat) (xs:List Value),F g∧Bk w g 280 #[.bool x.all,.slice A x.ms.length c]∧x.ms.length*8≤R47∧x.ms.length≤c∧c≤maxLen∧Row F w 1 A x.ms.length xs∧Cells 1 (MQ F w) x.ms xs:=by
 cases h with
 | @mk _ all ms A c xs G H h1 h2 h3 h4 h5 h6 h7 h8=>
  exact⟨A,c,xs,h1,h2,h3,h4,h5,h6,h6.1,fun i k hk=>⟨G i,H i,(h7 i k hk).1,(h7 i k hk).2,h8 i k hk⟩⟩
theorem MatR.of_parts {F:Nat→Prop} {w:World} {g:Nat} {all:Bool} {ms:List (Option E × Mt)} {A:Option Addr} {c:Nat} {xs:List Value} (h1:F g) (h2:Bk w g 280 #[.bool all,.slice A ms.length c]) (h3:ms.length*8≤R47) (h4:ms.length≤c) (h5:c≤maxLen) (h6:Row F w 1 A ms.length xs) (h7:Cells 1 (MQ F w) ms xs):MatR F w g (.mk all ms):=by
 have hall:∀i,i<ms.length→∃GH:Nat × Nat,∀k,ms[i]? = some k→((xs.drop (i*1)).take 1=[.pointer (some ⟨GH.1,0,none⟩)]∧MemAt F w GH.1 GH.2 k.1)∧MatR F w GH.2 k.2:=fun i hi=>by
  obtain⟨b,g,q1,q2,q3⟩:=h7.2 i ms[i] (List.getElem?_eq_getElem hi)
  exact⟨(b,g),fun k hk=>by rw[List.getElem?_eq_getElem hi] at hk;cases hk;exact⟨⟨q1,q2⟩,q3⟩⟩
 obtain⟨G,hG⟩:=Deep.choose_lt hall
 exact .mk (G:=fun i=>(G i).1) (H:=fun i=>(G i).2) h1 h2 h3 h4 h5 h6 (fun i k hk=>(hG i (List.getElem?_eq_some_iff.1 hk).1 k hk).1) fun i k hk=>(hG i (List.getElem?_eq_some_iff.1 hk).1 k hk).2
theorem hitM_at {e:E} {ms:List (Option E × Mt)} {j:Nat} {q:Option E × Mt} (hj:ms[j]? = some q) (hq:okM e q=true) (hn:∀(i:Nat) p,i<j→ms[i]? = some p→okM e p=false):hitM e ms=some q:=by
 unfold hitM
 induction ms generalizing j with
 | nil=>simp at hj
 | cons a ms ih=>
  cases j with
  | zero=>
   simp at hj
   subst hj
   rw[List.find?_cons,hq]
  | succ j=>
   rw[List.find?_cons,hn 0 a (by omega) rfl]
   exact ih (by simpa using hj) fun i p hi hp=>hn (i+1) p (by omega) (by simpa using hp)
theorem hitM_none {e:E} {ms:List (Option E × Mt)} (hn:∀(i:Nat) p,ms[i]? = some p→okM e p=false):hitM e ms=none:=by
 unfold hitM
 refine List.find?_eq_none.2 fun p hp=>?_
 obtain⟨i,hi⟩:=List.getElem?_of_mem hp
 rw[hn i p hi]
 decide
def Aloof (R:Nat→Prop) (W:World) (s:Value) (b:Nat):Prop:=R b∧b<W.heap.size∧s.ownBlock≠some b
theorem aloof_below {α:Type} {k:Nat} {Q:(Nat→Prop)→World→α→List Value→Prop} (qk:∀{F:Nat→Prop} {w w':World} {a:α} {cs:List Value},Q F w a cs→Keeps F w w'→Q F w' a cs) (qm:∀{F G:Nat→Prop} {w:World} {a:α} {cs:List Value},Q F w a cs→(∀b,F b→G b)→Q G w a cs)
  {R:Nat→Prop} {W V:World} {s:Value} {ls:List α} {us:List Value} (h:Cells k (Q (Aloof R W s) W) ls us) (hb:Below W.heap.size W V):Cells k (Q (Aloof R V s) V) ls us:=
 h.mono fun _ _ h=>qm (qk h (Keeps.below hb fun b hb=>hb.2.1)) fun b hb'=>⟨hb'.1,Nat.lt_of_lt_of_le hb'.2.1 hb.size,hb'.2.2⟩
theorem aloof_step {α:Type} {k:Nat} {Q:(Nat→Prop)→World→α→List Value→Prop} (qk:∀{F:Nat→Prop} {w w':World} {a:α} {cs:List Value},Q F w a cs→Keeps F w w'→Q F w' a cs) (qm:∀{F G:Nat→Prop} {w:World} {a:α} {cs:List Value},Q F w a cs→(∀b,F b→G b)→Q G w a cs)
  {R:Nat→Prop} {V W3:World} {s s':Value} {ls add:List α} {us news:List Value} (hc:Cells k (Q (Aloof R V s) V) ls us) (hadd:Cells k (Q (Aloof R V s) V) add news) (hg:V.grownBy W3 s.ownBlock) (hat:s'.ownBlock=s.ownBlock∨s'.ownBlock=some V.heap.size):Cells k (Q (Aloof R W3 s') W3) (ls++add) (us++news):=by
 have hk:Keeps (Aloof R V s) V W3:=fun b hb=>hg.block b hb.2.1 fun e=>hb.2.2 e.symm
 have hm:∀b,Aloof R V s b→Aloof R W3 s' b:=fun b hb=>by
  refine⟨hb.1,Nat.lt_of_lt_of_le hb.2.1 hg.size,fun e=>?_⟩
  rcases hat with e' | e'
  ·exact hb.2.2 (by rw[←e'];exact e)
  ·rw[e'] at e
   have e3:V.heap.size=b:=Option.some.inj e
   have:=hb.2.1
   omega
 exact Cells.append (hc.mono fun _ _ h=>qm (qk h hk) hm) (hadd.mono fun _ _ h=>qm (qk h hk) hm)
theorem insC_last {l:List E} {e:E} (h:∀a ∈ l,E.cmp a e<0):insC E.cmp e l=l++[e]:=by
 induction l with
 | nil=>rfl
 | cons a l ih=>rw[insC,if_pos (h a (by simp)),ih fun x hx=>h x (by simp[hx])];rfl
end Go.Proofs.YtbicoknghdgahaaGreat
namespace Go.Proofs.YtbicoknghdgahaaGreat
open Go.RowKit
attribute [local go_sem] run_store_float
theorem run_assert_1 (v:Value) (w:World):(Instr.typeAssert (.iface 283 v) 20 283 true).run Tryz.prog w = .ok (.tuple #[v,.bool true]) w:=by kernel_rfl
theorem run_assert_2 (v:Value) (w:World):(Instr.typeAssert (.iface 109 v) 20 283 true).run Tryz.prog w = .ok (.tuple #[.agg #[.bool false,.pointer none,.pointer none,.pointer none,.pointer none],.bool false]) w:=by kernel_rfl
theorem run_assert_3 (v:Value) (w:World):(Instr.typeAssert (.iface 109 v) 20 109 true).run Tryz.prog w = .ok (.tuple #[v,.bool true]) w:=by kernel_rfl
attribute [local go_sem] run_assert_1 run_assert_2 run_assert_3
def PartQ (F:Nat→Prop) (w:World) (o:Option E) (cs:List Value):Prop:=
 (o=none∧cs=[.iface 283 (.agg #[.bool true,.pointer none,.pointer none,.pointer none,.pointer none])])∨∃e p0 p1 p2 p3,o=some e∧cs=[.iface 109 (.agg #[.pointer p0,.pointer p1,.pointer p2,.pointer p3])]∧PEAt F w e [.pointer p0,.pointer p1,.pointer p2,.pointer p3]
theorem PartQ.keeps {F:Nat→Prop} {w w':World} {o:Option E} {cs:List Value} (h:PartQ F w o cs) (k:Keeps F w w'):PartQ F w' o cs:=by
 rcases h with h | ⟨e,p0,p1,p2,p3,h1,h2,h3⟩
 ·exact .inl h
 ·exact .inr ⟨e,p0,p1,p2,p3,h1,h2,h3.keeps k⟩
theorem PartQ.mono {F G:Nat→Prop} {w:World} {o:Option E} {cs:List Value} (h:PartQ F w o cs) (k:∀b,F b→G b):PartQ G w o cs:=by
 rcases h with h | ⟨e,p0,p1,p2,p3,h1,h2,h3⟩
 ·exact .inl h
 ·exact .inr ⟨e,p0,p1,p2,p3,h1,h2,h3.mono k⟩
def GivesM (F:Nat→Prop) (x:Mt) (w:World) (en:Ending) (w':World):Prop:=∃h,en = .returned (.tuple #[.pointer (some ⟨h,0,none⟩),.nilIface])∧MatR (fun b=>F b∨Fr w.heap.size w' b) w' h x∧Below w.heap.size w w'
def PMInv (F:Nat→Prop) (w:World) (pat:List (Option E)) (s4 s5:Value) (W:World):Prop:=
 ∃(k:Nat) (z:Int) (h:Nat),s5 = .int .i64 z∧z+1=(k:Int)∧k≤pat.length∧s4 = .pointer (some ⟨h,0,none⟩)∧MatR (fun b=>F b∨Fr w.heap.size W b) W h (chainM (pat.drop k))∧Below w.heap.size w W
def AnySetPost (w:World) (en:Ending) (w':World):Prop:=∃h,en = .returned (.pointer (some ⟨h,0,none⟩))∧w.heap.size≤h∧Bk w' h 280 #[.bool true,.slice none 0 0]∧Below w.heap.size w w'
theorem anySet_calls (w:World):Calls Tryz.prog 204 #[] w (AnySetPost w):=by
 go_enter Tryz.func204,Tryz.ntmps204
 go_wp2
 go_ret
 exact⟨w.heap.size,rfl,Nat.le_refl _,Bk.new w _ _,(Below.refl _ _).alloc (Nat.le_refl _) _⟩
theorem anyMat {F:Nat→Prop} {w:World} {h:Nat} (h1:F h) (h2:Bk w h 280 #[.bool true,.slice none 0 0]):MatR F w h (chainM []):=
 MatR.of_parts (xs:=[]) h1 h2 (by simp[R47]) (Nat.le_refl _) (by simp[maxLen]) (Row.nil_) Cells.nil_
theorem link_at {F:Nat→Prop} {w W2 W3:World} {g:Nat} {o:Option E} {x:Mt} {p0 p1 p2 p3:Option Addr} (hF:∀b,F b→b<w.heap.size) (hb:Below w.heap.size w W2) (hm:MatR (fun b=>F b∨Fr w.heap.size W2 b) W2 g x)
  (hp:∀e,o=some e→PEAt F W2 e [.pointer p0,.pointer p1,.pointer p2,.pointer p3]) (h3:Bk W3 W2.heap.size 285 #[.bool o.isNone,.pointer p0,.pointer p1,.pointer p2,.pointer p3,.pointer (some ⟨g,0,none⟩)])
  (h4:Bk W3 (W2.heap.size+1) 281 #[.pointer (some ⟨W2.heap.size,0,none⟩)]) (h5:Bk W3 (W2.heap.size+2) 280 #[.bool false,.slice (some ⟨W2.heap.size+1,0,none⟩) 1 1]) (hb3:Below W2.heap.size W2 W3) :
  MatR (fun b=>F b∨Fr w.heap.size W3 b) W3 (W2.heap.size+2) (.mk false [(o,x)])∧Below w.heap.size w W3:=by
 have h23:w.heap.size≤W2.heap.size:=hb.size
 have l3:=h3.lt
 have l4:=h4.lt
 have l5:=h5.lt
 have hk:Keeps (fun b=>F b∨Fr w.heap.size W2 b) W2 W3:=Keeps.below hb3 fun b hb'=>by
  rcases hb' with h1 | h1
  ·have:=hF b h1;omega
  ·exact h1.2
 refine⟨MatR.of_parts (xs:=[.pointer (some ⟨W2.heap.size,0,none⟩)]) (.inr ⟨by omega,l5⟩) h5 (by simp[R47]) (Nat.le_refl _) (by simp[maxLen]) (Row.of_bkp h4 rfl (.inr ⟨by omega,l4⟩)) (Cells.one ⟨W2.heap.size,g,rfl,⟨.inr ⟨h23,l3⟩,p0,p1,p2,p3,h3,fun e he=>?_⟩,?_⟩ rfl),hb.trans (hb3.mono h23)⟩
 ·exact((hp e he).keeps (fun b hb'=>hk b (.inl hb'))).mono fun b hb'=>.inl hb'
 ·exact(hm.keeps hk).mono fun b hb'=>hb'.imp id fun h1=>⟨h1.1,Nat.lt_of_lt_of_le h1.2 hb3.size⟩
set_option maxRecDepth 100000 in
set_option maxHeartbeats 4000000 in
theorem prefix_calls {F:Nat→Prop} {w:World} {pat:List (Option E)} {A:Option Addr} {c:Nat} {us:List Value} (hF:∀b,F b→b<w.heap.size) (hr:Row F w 1 A pat.length us) (hc:Cells 1 (PartQ F w) pat us) (h47:pat.length*16≤R47) :
  Calls Tryz.prog 166 #[.slice A pat.length c] w (GivesM F (chainM pat) w):=by
 have h47':pat.length*16≤140737488351232:=h47
 obtain⟨n,hn⟩:∃n,pat.length=n:=⟨_,rfl⟩
 rw[hn] at hr h47' ⊢
 have H7:=hide (And.intro hr hc)
 have HF:=hide hF
 have Hn:=hide hn
 have HA:=hide (anySet_calls w)
 clear hr hc hF hn h47
 go_enter Tryz.func166,Tryz.ntmps166
 go_wp2_with fail
 refine HA.out.mono ?_
 rintro en w1 ⟨h,rfl,hh,hbk,hb⟩
 have H0:=hide (show PMInv F w pat (.pointer (some ⟨h,0,none⟩)) (.int .i64 ((n:Int)-1)) w1 from⟨n,(n:Int)-1,h,rfl,by omega,by rw[Hn.out];exact Nat.le_refl _,rfl,by rw[List.drop_of_length_le (by rw[Hn.out];exact Nat.le_refl _)];exact anyMat (.inr ⟨hh,hbk.lt⟩) hbk,hb⟩)
 clear hbk hb hh HA
 go_wp2_with fail
 go_loopw [4,5] (fun s4 s5 W=>PMInv F w pat s4 s5 W) (fun _ s _=>(intOf s+1).toNat)
 case atStart=>exact H0.out
 case round=>
  obtain⟨k,z,g,rfl,hz,hk,rfl,hm,hb⟩:=hrel
  rw[Hn.out] at hk
  by_cases hk0:k=0
  ·subst hk0
   have hz':z = -1:=by omega
   subst hz'
   have hlt:¬(0:Int)≤-1:=by omega
   have Hm:=hide (And.intro hm hb)
   clear hm hb
   go_wp2_with fail
   go_ret2
   exact⟨g,rfl,Hm.out.1,Hm.out.2⟩
  ·obtain⟨k,rfl⟩:∃k',k=k'+1:=⟨k-1,by omega⟩
   have hz':z=(k:Int):=by omega
   subst hz'
   have hki0:(0:Int)≤(k:Int):=Int.natCast_nonneg _
   have hkn:k<n:=by omega
   have hki1:(k:Int)<(n:Int):=by omega
   have hkl:k<pat.length:=by rw[Hn.out];exact hkn
   have hx:=H7.out.2.at_ hkl
   have hdr:pat.drop k=pat[k]::pat.drop (k+1):=List.drop_eq_getElem_cons hkl
   generalize pat[k]=o at *
   generalize hcs:(us.drop (k*1)).take 1=ucs at hx
   obtain⟨x,rfl⟩:∃x,ucs=[x]:=by
    rcases hx with ⟨_,h⟩ | ⟨_,_,_,_,_,_,h,_⟩ <;> exact⟨_,h⟩
   obtain⟨rb,ro,rfl,hF1,hc1⟩:=rown_at H7.out.1 hkn hcs
   have q0:=((bcell hb).1 _ _ (HF.out _ hF1)).trans (hc1 0 _ rfl)
   rw[Nat.mul_one,Nat.add_zero] at q0
   have hrb:rb<w.heap.size:=HF.out _ hF1
   have hwe:w.heap.size≤wr.heap.size:=hb.size
   rcases hx with ⟨ho,hx⟩ | ⟨e,p0,p1,p2,p3,ho,hx,hpe⟩
   ·cases hx
    subst ho
    have Hm:=hide (And.intro hm (And.intro hb hdr))
    clear hm hb hdr hcs hc1 hF1
    obtain⟨wo,hwo⟩:∃W,W=wr:=⟨_,rfl⟩
    subst hwo
    go_upto_region 30 with fail
    have hbA:Below wo.heap.size wo ((wo.alloc (.cells #[.bool true,.pointer none,.pointer none,.pointer none,.pointer none] 283)).alloc (.cells #[.bool true,.pointer none,.pointer none,.pointer none,.pointer none] 283)):=((Below.refl _ _).alloc (Nat.le_refl _) _).alloc (by simp) _
    have hX:=(Bk.new wo 283 #[.bool true,.pointer none,.pointer none,.pointer none,.pointer none]).alloc (.cells #[.bool true,.pointer none,.pointer none,.pointer none,.pointer none] 283)
    clear q0
    generalize hwA:World.alloc (World.alloc wo _) _=wA at hbA hX ⊢
    obtain⟨xb,hxb⟩:∃xb,wo.heap.size=xb:=⟨_,rfl⟩
    rw[hxb] at hX
    try rw[hxb]
    have x0:=hX.cell 0
    have x1:=hX.cell 1
    have x2:=hX.cell 2
    have x3:=hX.cell 3
    have x4:=hX.cell 4
    simp at x0 x1 x2 x3 x4
    have hxl:=hX.lt
    have hwA':wo.heap.size≤wA.heap.size:=hbA.size
    have hmA:MatR (fun b=>F b∨Fr w.heap.size wA b) wA g (chainM (pat.drop (k+1))):=(Hm.out.1.keeps (Keeps.below hbA fun b hb'=>by
     rcases hb' with h1 | h1
     ·have:=HF.out b h1;omega
     ·exact h1.2)).mono fun b hb'=>hb'.imp id fun h1=>⟨h1.1,Nat.lt_of_lt_of_le h1.2 hwA'⟩
    have hbw:Below w.heap.size w wA:=Hm.out.2.1.trans (hbA.mono hwe)
    have hL:=link_at (o:=none) (p0:=none) (p1:=none) (p2:=none) (p3:=none) HF.out hbw hmA (fun e he=>by cases he)
     (((Bk.new wA 285 #[.bool true,.pointer none,.pointer none,.pointer none,.pointer none,.pointer (some ⟨g,0,none⟩)]).alloc (.cells #[.pointer (some ⟨wA.heap.size,0,none⟩)] 281)).alloc (.cells #[.bool false,.slice (some ⟨wA.heap.size+1,0,none⟩) 1 1] 280))
     (by have:=(Bk.new (wA.alloc (.cells #[.bool true,.pointer none,.pointer none,.pointer none,.pointer none,.pointer (some ⟨g,0,none⟩)] 285)) 281 #[.pointer (some ⟨wA.heap.size,0,none⟩)]).alloc (.cells #[.bool false,.slice (some ⟨wA.heap.size+1,0,none⟩) 1 1] 280);simpa using this)
     (by have:=Bk.new ((wA.alloc (.cells #[.bool true,.pointer none,.pointer none,.pointer none,.pointer none,.pointer (some ⟨g,0,none⟩)] 285)).alloc (.cells #[.pointer (some ⟨wA.heap.size,0,none⟩)] 281)) 280 #[.bool false,.slice (some ⟨wA.heap.size+1,0,none⟩) 1 1];simpa using this)
     ((((Below.refl _ _).alloc (Nat.le_refl _) _).alloc (by simp) _).alloc (by simp;omega) _)
    have Hx:=hide (show PMInv F w pat (.pointer (some ⟨wA.heap.size+2,0,none⟩)) (.int .i64 ((k:Int)-1)) _ from⟨k,(k:Int)-1,wA.heap.size+2,rfl,by omega,by rw[Hn.out];omega,rfl,by rw[Hm.out.2.2];exact hL.1,hL.2⟩)
    clear hwA hbA hX hmA hbw hL Hm
    go_wp2_with fail
    exact⟨Hx.out,by simp[intOf]⟩
   ·cases hx
    subst ho
    have Hm:=hide (And.intro hm (And.intro hb (And.intro hdr hpe)))
    clear hm hb hdr hcs hc1 hF1 hpe
    obtain⟨wo,hwo⟩:∃W,W=wr:=⟨_,rfl⟩
    subst hwo
    go_upto_region 30 with fail
    have hbA:Below wo.heap.size wo ((wo.alloc (.cells #[.bool false,.pointer p0,.pointer p1,.pointer p2,.pointer p3] 283)).alloc (.cells #[.pointer p0,.pointer p1,.pointer p2,.pointer p3] 109)):=((Below.refl _ _).alloc (Nat.le_refl _) _).alloc (by simp) _
    have hX:=(Bk.new wo 283 #[.bool false,.pointer p0,.pointer p1,.pointer p2,.pointer p3]).alloc (.cells #[.pointer p0,.pointer p1,.pointer p2,.pointer p3] 109)
    clear q0
    generalize hwA:World.alloc (World.alloc wo _) _=wA at hbA hX ⊢
    obtain⟨xb,hxb⟩:∃xb,wo.heap.size=xb:=⟨_,rfl⟩
    rw[hxb] at hX
    try rw[hxb]
    have x0:=hX.cell 0
    have x1:=hX.cell 1
    have x2:=hX.cell 2
    have x3:=hX.cell 3
    have x4:=hX.cell 4
    simp at x0 x1 x2 x3 x4
    have hxl:=hX.lt
    have hwA':wo.heap.size≤wA.heap.size:=hbA.size
    have hmA:MatR (fun b=>F b∨Fr w.heap.size wA b) wA g (chainM (pat.drop (k+1))):=(Hm.out.1.keeps (Keeps.below hbA fun b hb'=>by
     rcases hb' with h1 | h1
     ·have:=HF.out b h1;omega
     ·exact h1.2)).mono fun b hb'=>hb'.imp id fun h1=>⟨h1.1,Nat.lt_of_lt_of_le h1.2 hwA'⟩
    have hbw:Below w.heap.size w wA:=Hm.out.2.1.trans (hbA.mono hwe)
    have hL:=link_at (o:=(some e)) (p0:=p0) (p1:=p1) (p2:=p2) (p3:=p3) HF.out hbw hmA (fun e he=>by cases he;exact Hm.out.2.2.2.keeps (Keeps.below hbw HF.out))
     (((Bk.new wA 285 #[.bool false,.pointer p0,.pointer p1,.pointer p2,.pointer p3,.pointer (some ⟨g,0,none⟩)]).alloc (.cells #[.pointer (some ⟨wA.heap.size,0,none⟩)] 281)).alloc (.cells #[.bool false,.slice (some ⟨wA.heap.size+1,0,none⟩) 1 1] 280))
     (by have:=(Bk.new (wA.alloc (.cells #[.bool false,.pointer p0,.pointer p1,.pointer p2,.pointer p3,.pointer (some ⟨g,0,none⟩)] 285)) 281 #[.pointer (some ⟨wA.heap.size,0,none⟩)]).alloc (.cells #[.bool false,.slice (some ⟨wA.heap.size+1,0,none⟩) 1 1] 280);simpa using this)
     (by have:=Bk.new ((wA.alloc (.cells #[.bool false,.pointer p0,.pointer p1,.pointer p2,.pointer p3,.pointer (some ⟨g,0,none⟩)] 285)).alloc (.cells #[.pointer (some ⟨wA.heap.size,0,none⟩)] 281)) 280 #[.bool false,.slice (some ⟨wA.heap.size+1,0,none⟩) 1 1];simpa using this)
     ((((Below.refl _ _).alloc (Nat.le_refl _) _).alloc (by simp) _).alloc (by simp;omega) _)
    have Hx:=hide (show PMInv F w pat (.pointer (some ⟨wA.heap.size+2,0,none⟩)) (.int .i64 ((k:Int)-1)) _ from⟨k,(k:Int)-1,wA.heap.size+2,rfl,by omega,by rw[Hn.out];omega,rfl,by rw[Hm.out.2.2.1];exact hL.1,hL.2⟩)
    clear hwA hbA hX hmA hbw hL Hm
    go_wp2_with fail
    exact⟨Hx.out,by simp[intOf]⟩
end Go.Proofs.YtbicoknghdgahaaGreat
