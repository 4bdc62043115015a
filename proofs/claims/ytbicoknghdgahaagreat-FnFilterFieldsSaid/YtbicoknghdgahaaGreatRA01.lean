import Derived.Test.YtbicoknghdgahaaGreatKB09
set_option linter.unusedVariables false
set_option linter.unusedSimpArgs false
namespace Go.Proofs.YtbicoknghdgahaaGreat
theorem peqv_iff:∀{p q:List E},POk p→POk q→(peqv p q=true↔pcmp p q=0)
 | [],[],_,_=>by simp[pcmp,peqv]
 | [],_::_,_,_=>by simp[pcmp,peqv]
 | _::_,[],_,_=>by simp[pcmp,peqv]
 | a::p,b::q,h1,h2=>by
  have e:=E.eqv_iff (h1 a (by simp)) (h2 b (by simp))
  have e2:=peqv_iff (p:=p) (q:=q) (fun t ht=>h1 t (by simp[ht])) (fun t ht=>h2 t (by simp[ht]))
  rw[pcmp,peqv,Bool.and_eq_true,e,e2]
  by_cases h:E.cmp a b=0
  ·rw[if_pos h];simp[h]
  ·rw[if_neg h];simp[h]
section
variable {α:Type} {c:α→α→Int} {Ok:α→Prop} (O:TOrd c Ok)
include O
theorem hasC_iff {e:α} {l:List α} (he:Ok e) (hl:∀x ∈ l,Ok x) (hs:SortC c l):hasC c e l=true↔HasC c l e:=by
 unfold HasC
 induction l with
 | nil=>simp[hasC]
 | cons x l ih=>
  obtain⟨h1,h2⟩:=List.pairwise_cons.1 hs
  have hx:=hl x (by simp)
  have hl':∀y ∈ l,Ok y:=fun y hy=>hl y (by simp[hy])
  have ih:=ih hl' h2
  unfold hasC at ih ⊢
  simp only[cntC]
  by_cases hp:c x e<0
  ·rw[if_pos hp]
   simp only[List.getElem?_cons_succ]
   rw[ih]
   constructor
   ·rintro⟨a,h3,h4⟩;exact⟨a,by simp[h3],h4⟩
   ·rintro⟨a,h3,h4⟩
    rcases List.mem_cons.1 h3 with rfl | h3
    ·omega
    ·exact⟨a,h3,h4⟩
  ·rw[if_neg hp]
   simp only[List.getElem?_cons_zero,decide_eq_true_eq]
   constructor
   ·intro h;exact⟨x,by simp,h⟩
   ·rintro⟨a,h3,h4⟩
    rcases List.mem_cons.1 h3 with rfl | h3
    ·exact h4
    ·have:=O.lt_le hx (hl' a h3) he (h1 a h3) (by omega)
     omega
end
end Go.Proofs.YtbicoknghdgahaaGreat
namespace Go.Proofs.YtbicoknghdgahaaGreat
theorem ecmp_turn (p q:List E):ecmp q p = - ecmp p q:=by
 unfold ecmp
 cases p.isEmpty <;> cases q.isEmpty <;> simp
theorem ecmp_tr (p q r:List E):Tr (ecmp p q) (ecmp q r) (ecmp p r):=by
 unfold ecmp Tr
 cases p.isEmpty <;> cases q.isEmpty <;> cases r.isEmpty <;> simp
theorem wcmp_turn:∀{p q:List E},POk p→POk q→wcmp q p = - wcmp p q
 | [],[],_,_=>by simp[wcmp]
 | [],_::_,_,_=>by simp[wcmp]
 | _::_,[],_,_=>by simp[wcmp]
 | a::p,b::q,h1,h2=>by
  have e:=E.cmp_turn (h1 a (by simp)) (h2 b (by simp))
  have e2:=wcmp_turn (p:=p) (q:=q) (fun t ht=>h1 t (by simp[ht])) (fun t ht=>h2 t (by simp[ht]))
  rw[wcmp,wcmp,e,e2,ecmp_turn p q]
  by_cases h0:ecmp p q=0
  ·rw[if_pos (by omega),if_pos h0]
   by_cases h:E.cmp a b=0
   ·rw[if_pos (by omega),if_pos h]
   ·rw[if_neg (by omega),if_neg h]
  ·rw[if_neg (by omega),if_neg h0]
theorem wcmp_tr:∀{x y z:List E},POk x→POk y→POk z→Tr (wcmp x y) (wcmp y z) (wcmp x z)
 | [],[],[],_,_,_=>by simp[wcmp,Tr]
 | [],[],_::_,_,_,_=>by simp[wcmp,Tr]
 | [],_::_,[],_,_,_=>by simp[wcmp,Tr]
 | [],_::_,_::_,_,_,_=>by simp[wcmp,Tr]
 | _::_,[],[],_,_,_=>by simp[wcmp,Tr]
 | _::_,[],_::_,_,_,_=>by simp[wcmp,Tr]
 | _::_,_::_,[],_,_,_=>by simp[wcmp,Tr]
 | a::x,b::y,c::z,h1,h2,h3=>by
  rw[wcmp,wcmp,wcmp]
  have e:=wcmp_tr (x:=x) (y:=y) (z:=z) (fun t ht=>h1 t (by simp[ht])) (fun t ht=>h2 t (by simp[ht])) (fun t ht=>h3 t (by simp[ht]))
  exact Tr.lex (ecmp_tr x y z) fun _ _=>Tr.lex (E.cmp_tr (h1 a (by simp)) (h2 b (by simp)) (h3 c (by simp))) fun _ _=>e
theorem wcmp_ord:TOrd wcmp POk:=⟨fun h=>wcmp_self h,fun h k=>wcmp_turn h k,fun h k l=>wcmp_tr h k l⟩
end Go.Proofs.YtbicoknghdgahaaGreat
namespace Go.Proofs.YtbicoknghdgahaaGreat
inductive Mt where
 | mk (all:Bool) (ms:List (Option E × Mt))
def Mt.all:Mt→Bool
 | .mk a _=>a
def Mt.ms:Mt→List (Option E × Mt)
 | .mk _ m=>m
def okM (e:E) (p:Option E × Mt):Bool:=match p.1 with
 | none=>true
 | some x=>E.eqv x e
def hitM (e:E) (ms:List (Option E × Mt)):Option (Option E × Mt):=ms.find? (okM e)
mutual
def filtS:St→Mt→St
 | .mk m ks,x=>if x.all=true then .mk m ks else .mk (m.filter fun e=>(hitM e x.ms).isSome) (filtK ks x)
def filtK:List (E × St)→Mt→List (E × St)
 | [],_=>[]
 | (e,s)::r,x=>(match hitM e x.ms with
  | some c=>if 0<(filtS s c.2).paths.length then [(e,filtS s c.2)] else []
  | none=>[])++filtK r x
end
def filt1 (x:Mt) (k:E × St):List (E × St):=match hitM k.1 x.ms with
 | some c=>if 0<(filtS k.2 c.2).paths.length then [(k.1,filtS k.2 c.2)] else []
 | none=>[]
theorem filtK_cons {k:E × St} {r:List (E × St)} {x:Mt}:filtK (k::r) x=filt1 x k++filtK r x:=by
 obtain⟨e,s⟩:=k
 rw[filtK]
 rfl
theorem filtK_append {a b:List (E × St)} {x:Mt}:filtK (a++b) x=filtK a x++filtK b x:=by
 induction a with
 | nil=>rw[List.nil_append,filtK,List.nil_append]
 | cons k a ih=>rw[List.cons_append,filtK_cons,filtK_cons,ih,List.append_assoc]
theorem filtK_snoc {a:List (E × St)} {k:E × St} {x:Mt}:filtK (a++[k]) x=filtK a x++filt1 x k:=by
 rw[filtK_append,filtK_cons,filtK,List.append_nil]
theorem filtK_length {ks:List (E × St)} {x:Mt}:(filtK ks x).length≤ks.length:=by
 induction ks with
 | nil=>rw[filtK];exact Nat.le_refl _
 | cons k ks ih=>
  rw[filtK_cons,List.length_append,List.length_cons]
  have:(filt1 x k).length≤1:=by
   unfold filt1
   split
   ·split <;> simp
   ·simp
  omega
theorem filtS_mk {m:List E} {ks:List (E × St)} {x:Mt} (h:x.all=false):filtS (.mk m ks) x = .mk (m.filter fun e=>(hitM e x.ms).isSome) (filtK ks x):=by
 rw[filtS,if_neg (by rw[h];decide)]
theorem filtS_all {s:St} {x:Mt} (h:x.all=true):filtS s x=s:=by
 cases s with
 | mk m ks=>rw[filtS,if_pos h]
def Mt.lets:Mt→List E→Bool
 | x,[]=>x.all
 | x,e::p=>x.all||match hitM e x.ms with
  | some c=>p.isEmpty||c.2.lets p
  | none=>false
termination_by _ p=>p.length
theorem lets_cons {x:Mt} {e:E} {p:List E}:x.lets (e::p)=(x.all||match hitM e x.ms with
  | some c=>p.isEmpty||c.2.lets p
  | none=>false):=by rw[Mt.lets]
theorem lets_all {x:Mt} (h:x.all=true) (p:List E):x.lets p=true:=by
 cases p with
 | nil=>rw[Mt.lets,h]
 | cons e p=>rw[lets_cons,h,Bool.true_or]
theorem paths_ne:∀(s:St),∀p ∈ s.paths,p≠[]
 | s,p,hp=>by
  rcases paths_mem.1 hp with ⟨e,he,rfl⟩ | ⟨k,hk,q,hq,rfl⟩ <;> simp
mutual
theorem filtS_paths:∀(s:St) (x:Mt),(filtS s x).paths=s.paths.filter x.lets
 | .mk m ks,x=>by
  by_cases h:x.all=true
  ·rw[filtS_all h,List.filter_eq_self.2 fun p _=>lets_all h p]
  ·have h:x.all=false:=by simpa using h
   rw[filtS_mk h,St.paths,St.paths,List.filter_append,filtK_paths ks x h,List.filter_map]
   congr 2
   refine List.filter_congr fun e _=>?_
   show _=x.lets [e]
   rw[lets_cons,h,Bool.false_or]
   cases hitM e x.ms <;> rfl
theorem filtK_paths:∀(ks:List (E × St)) (x:Mt),x.all=false→St.pathsK (filtK ks x)=(St.pathsK ks).filter x.lets
 | [],x,_=>by rw[filtK,St.pathsK];rfl
 | (e,s)::r,x,h=>by
  have ih:=filtK_paths r x h
  have ih1:=fun c=>filtS_paths s c
  rw[filtK,St.pathsK,List.filter_append,←ih]
  have hf:∀c,hitM e x.ms=c→(s.paths.map (e :: ·)).filter x.lets=match c with | some c=>(filtS s c.2).paths.map (e :: ·) | none=>[]:=fun c hc=>by
   rw[List.filter_map]
   cases c with
   | none=>
    rw[List.filter_eq_nil_iff.2 fun q hq=>by
     show ¬x.lets (e::q)=true
     rw[lets_cons,h,hc]
     simp]
    rfl
   | some c=>
    simp only
    rw[ih1 c.2]
    congr 1
    refine List.filter_congr fun q hq=>?_
    have hq0:=paths_ne s q hq
    show x.lets (e::q)=_
    rw[lets_cons,h,hc,Bool.false_or]
    cases q with
    | nil=>exact absurd rfl hq0
    | cons a q=>simp
  rw[hf _ rfl]
  cases hc:hitM e x.ms with
  | none=>simp
  | some c=>
   simp only
   split
   ·rw[List.singleton_append,St.pathsK]
   ·rename_i h0
    rw[List.eq_nil_of_length_eq_zero (show(filtS s c.2).paths.length=0 by omega)]
    simp
end
theorem filtS_count (s:St) (x:Mt):(filtS s x).paths.length≤s.paths.length:=by
 rw[filtS_paths]
 exact List.length_filter_le _ _
def chainM:List (Option E)→Mt
 | []=>.mk true []
 | e::p=>.mk false [(e,chainM p)]
end Go.Proofs.YtbicoknghdgahaaGreat
namespace Go.Proofs.YtbicoknghdgahaaGreat
open Go.RowKit
attribute [local go_sem] run_store_float
structure BB (w:World) (t:TypeId) (a b:Array Value) (W:World):Prop where
 below:Below w.heap.size w W
 a:Bk W w.heap.size t a
 b:Bk W (w.heap.size+1) t b
theorem BB.call {w W W':World} {t:TypeId} {a b:Array Value} (h:BB w t a b W) (hb:Below W.heap.size W W'):BB w t a b W':=
 ⟨h.below.trans (hb.mono h.below.size),h.a.below hb h.a.lt,h.b.below hb h.b.lt⟩
theorem BB.made (w:World) (t:TypeId) (a b:Array Value):BB w t a b ((w.alloc (.cells a t)).alloc (.cells b t)):=by
 refine⟨below_two w _ _,(Bk.new _ _ _).alloc _,?_⟩
 have:=Bk.new (w.alloc (.cells a t)) t b
 simpa only[World.size_alloc] using this
end Go.Proofs.YtbicoknghdgahaaGreat
namespace Go.Proofs.YtbicoknghdgahaaGreat
open Go.RowKit
attribute [local go_sem] run_store_float
def TAt (w:World) (t:T) (cs:List Value):Prop:=RVAt (Old w) w t.toRV cs
theorem TAt.at_ {w W:World} {t:T} {cs:List Value} (h:TAt w t cs) (hb:Below w.heap.size w W):TAt W t cs:=RVAt.at_ h hb
def T.asF:T→Nat
 | .int n=>toF n
 | .flt f=>f
 | _=>0
set_option maxRecDepth 100000 in
theorem asFloat_calls (t:T) (w:World) (cs:List Value) (h:TAt w t cs) (hn:t.isNum=true):Calls Tryz.prog 150 #[.agg cs.toArray] w fun e w'=>e = .returned (.float .f64 t.asF)∧Below w.heap.size w w':=by
 have hb1:∀o:Obj,Below w.heap.size w (w.alloc o):=fun o=>(Below.refl _ _).alloc (Nat.le_refl _) _
 cases t <;> simp[T.isNum] at hn
 all_goals
  unfold TAt T.toRV at h
  cases h with
  | @mk _ _ _ _ _ _ KA LA kc lc xs h1 h2 h3 h4 h5 h6 h7 h8 h9 h10 h11 hKrow hLrow hx=>
  clear h1 h2 h3 h4 h5 h6 h7 h8 h9 h10 h11 hKrow hLrow hx
  go_enter Tryz.func150,Tryz.ntmps150
  go_wp2
  go_ret
  exact⟨rfl,hb1 _⟩
set_option maxRecDepth 100000 in
theorem number_calls (t:T) (w:World) (cs:List Value) (h:TAt w t cs):Calls Tryz.prog 149 #[.agg cs.toArray] w fun e w'=>e = .returned (.bool t.isNum)∧Below w.heap.size w w':=by
 have hb1:∀o:Obj,Below w.heap.size w (w.alloc o):=fun o=>(Below.refl _ _).alloc (Nat.le_refl _) _
 rcases t with _ | ⟨_ | _⟩ | n | f | s | l | m
 all_goals
  unfold TAt T.toRV at h
  cases h with
  | @mk _ _ _ _ _ _ KA LA kc lc xs h1 h2 h3 h4 h5 h6 h7 h8 h9 h10 h11 hKrow hLrow hx=>
  clear h1 h2 h3 h4 h5 h6 h7 h8 h9 h10 h11 hKrow hLrow hx
  go_enter Tryz.func149,Tryz.ntmps149
  go_wp2
  go_ret
  exact⟨rfl,hb1 _⟩
def TsAt (w:World) (A:Option Addr) (l:List T):Prop:=∃xs,Row (Old w) w 6 A l.length xs∧∀(i:Nat) t,l[i]? = some t→TAt w t ((xs.drop (i*6)).take 6)
theorem TsAt.at_ {w W:World} {A:Option Addr} {l:List T} (h:TsAt w A l) (hb:Below w.heap.size w W):TsAt W A l:=by
 obtain⟨xs,h1,h2⟩:=h
 exact⟨xs,(h1.keeps (Keeps.below hb fun _ h=>h)).mono fun _ h=>Nat.lt_of_lt_of_le h hb.size,fun i t ht=>(h2 i t ht).at_ hb⟩
theorem TsAt.elem {w:World} {A:Option Addr} {l:List T} (h:TsAt w A l) {k:Nat} (hk:k<l.length):∃b o c0 c1 c2 c3 c4 c5,A=some ⟨b,o,none⟩∧b<w.heap.size∧TAt w l[k] [c0,c1,c2,c3,c4,c5] ∧
  w.cell? ⟨b,o+k*6,none⟩=some c0∧w.cell? ⟨b,o+k*6+1,none⟩=some c1∧w.cell? ⟨b,o+k*6+2,none⟩=some c2∧w.cell? ⟨b,o+k*6+3,none⟩=some c3∧w.cell? ⟨b,o+k*6+4,none⟩=some c4∧w.cell? ⟨b,o+k*6+5,none⟩=some c5:=by
 obtain⟨xs,h1,h2⟩:=h
 have ht:=h2 k l[k] (List.getElem?_eq_getElem hk)
 generalize hcs:(xs.drop (k*6)).take 6=cs at ht
 obtain⟨c0,c1,c2,c3,c4,c5,rfl⟩:=RVAt.six ht
 obtain⟨b,o,rfl,hF,k0,k1,k2,k3,k4,k5⟩:=row6_at h1 hk hcs
 exact⟨b,o,c0,c1,c2,c3,c4,c5,rfl,hF,ht,k0,k1,k2,k3,k4,k5⟩
theorem TAt.map_ {w:World} {l:List (ByteArray × T)} {cs:List Value} (h:TAt w (.map l) cs):∃KA kc LA lc,cs=[.int .i64 6,.int .i64 0,.float .f64 0,.string ByteArray.empty,.slice KA l.length kc,.slice LA l.length lc] ∧
  Row (Old w) w 1 KA l.length (l.map fun p=>Value.string p.1)∧TsAt w LA (l.map Prod.snd)∧l.length*88≤R47∧l.length*16≤R47∧∀p ∈ l,p.1.size≤R47:=by
 unfold TAt T.toRV at h
 cases h with
 | @mk _ _ _ _ _ _ KA LA kc lc xs h1 h2 h3 h4 h5 h6 h7 h8 h9 h10 h11 hKrow hLrow hx=>
 rw[toRVM_eq] at *
 simp only[List.length_map,List.map_map] at *
 refine⟨KA,kc,LA,lc,rfl,hKrow,⟨xs,by simpa using hLrow,fun i t ht=>?_⟩,h7,h6,fun p hp=>h5 _ (List.mem_map.2 ⟨p,hp,rfl⟩)⟩
 refine hx i t.toRV ?_
 rw[List.getElem?_map] at ht ⊢
 cases hg:l[i]? with
 | none=>rw[hg] at ht;cases ht
 | some p=>rw[hg] at ht;cases ht;rfl
theorem TAt.list_ {w:World} {l:List T} {cs:List Value} (h:TAt w (.list l) cs):∃KA kc LA lc,cs=[.int .i64 5,.int .i64 0,.float .f64 0,.string ByteArray.empty,.slice KA 0 kc,.slice LA l.length lc]∧TsAt w LA l∧l.length*88≤R47:=by
 unfold TAt T.toRV at h
 cases h with
 | @mk _ _ _ _ _ _ KA LA kc lc xs h1 h2 h3 h4 h5 h6 h7 h8 h9 h10 h11 hKrow hLrow hx=>
 rw[toRVL_eq] at *
 simp only[List.length_map] at *
 refine⟨KA,kc,LA,lc,rfl,⟨xs,hLrow,fun i t ht=>hx i t.toRV ?_⟩,h7⟩
 rw[List.getElem?_map,ht]
 rfl
end Go.Proofs.YtbicoknghdgahaaGreat
