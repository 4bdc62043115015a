/- Parts: Val. -/
import Derived.Test.YtbicoknghdgahaaGreatKA03
import Derived.Test.YtbicoknghdgahaaGreatKB01
set_option linter.unusedVariables false
set_option linter.unusedSimpArgs false
namespace Go.Proofs.YtbicoknghdgahaaGreat
open Go.RowKit
attribute [local go_sem] run_store_float

theorem any_info : (Tryz.prog.info? 20).map (fun i => (i.zero, i.size, i.bytes)) = some (some .nilIface, 1, 16) := by kernel_rfl

def PlainOK (rv : RV) : Prop := ∀ (w : World) (cs : List Value), RVAt (Old w) w rv cs → Calls Tryz.prog 114 #[.agg cs.toArray] w (GivesAny rv.tree w)
def AllPlain (l : List RV) : Prop := ∀ r ∈ l, PlainOK r

set_option maxRecDepth 100000 in
set_option maxHeartbeats 400000 in
theorem plain_scalar (kind n : Int) (f : Nat) (s : ByteArray) (keys : List ByteArray) (l : List RV) (kv lv : Value) (w : World) (h5 : kind ≠ 5) (h6 : kind ≠ 6) (hn : okInt n) (hf : f < B64) (hs : s.size ≤ R47) :
  Calls Tryz.prog 114 #[.agg #[.int .i64 kind, .int .i64 n, .float .f64 f, .string s, kv, lv]] w (GivesAny (RV.mk kind n f s keys l).tree w) := by
 have hb : ∀ o, Below w.heap.size w (w.alloc o) := fun o => (Below.refl _ _).alloc (Nat.le_refl _) o
 by_cases h1 : kind = 1
 ·subst h1
  have ht : (RV.mk 1 n f s keys l).tree = .bool (n != 0) := by simp [RV.tree]
  rw [ht]
  clear hn hf hs h5 h6 ht
  go_enter Tryz.func114, Tryz.ntmps114
  go_wp2
  go_ret
  exact ⟨_, rfl, .bool _, hb _⟩
 by_cases h2 : kind = 2
 ·subst h2
  have ht : (RV.mk 2 n f s keys l).tree = .int n := by simp [RV.tree]
  rw [ht]
  have hn' := hide hn
  clear hn hf hs h5 h6 ht
  go_enter Tryz.func114, Tryz.ntmps114
  go_wp2
  go_ret
  exact ⟨_, rfl, .int hn'.out, hb _⟩
 by_cases h3 : kind = 3
 ·subst h3
  have ht : (RV.mk 3 n f s keys l).tree = .flt f := by simp [RV.tree]
  rw [ht]
  have hf' := hide hf
  clear hn hf hs h5 h6 ht
  go_enter Tryz.func114, Tryz.ntmps114
  go_wp2
  go_ret
  exact ⟨_, rfl, .flt hf'.out, hb _⟩
 by_cases h4 : kind = 4
 ·subst h4
  have ht : (RV.mk 4 n f s keys l).tree = .str s := by simp [RV.tree]
  rw [ht]
  have hs' := hide hs
  clear hn hf hs h5 h6 ht
  go_enter Tryz.func114, Tryz.ntmps114
  go_wp2
  go_ret
  exact ⟨_, rfl, .str hs'.out, hb _⟩
 have ht : (RV.mk kind n f s keys l).tree = .null := by simp [RV.tree, h1, h2, h3, h4, h5, h6]
 rw [ht]
 have e1 : (kind == 1) = false := by simpa using h1
 have e2 : (kind == 2) = false := by simpa using h2
 have e3 : (kind == 3) = false := by simpa using h3
 have e4 : (kind == 4) = false := by simpa using h4
 have e5 : (kind == 5) = false := by simpa using h5
 have e6 : (kind == 6) = false := by simpa using h6
 clear hn hf hs h1 h2 h3 h4 h5 h6 ht
 go_enter Tryz.func114, Tryz.ntmps114
 go_wp2
 go_ret
 exact ⟨_, rfl, .null, hb _⟩

def ListInv (B : Nat) (w : World) (l : List RV) (out ctr : Value) (wr : World) : Prop :=
 ∃ (k : Nat) (us : List Value), k ≤ l.length ∧ ctr = .int .i64 k ∧ wr.ownsRow B 20 1 out k us ∧ AnysAt (FrX B wr out) wr ((l.take k).map RV.tree) us ∧ Below B w wr

theorem list_step {B k : Nat} {w wr w1 w2 : World} {l : List RV} {out out' u : Value} {us : List Value} {o1 o2 : Obj} {r : RV} (hk : k < l.length) (hr : l[k]? = some r)
  (hown : wr.ownsRow B 20 1 out k us) (hus : AnysAt (FrX B wr out) wr ((l.take k).map RV.tree) us) (hb : Below B w wr) (hB : w.heap.size = B)
  (hu : AnyAt (Fr (wr.alloc o1).heap.size w1) w1 r.tree u) (hb1 : Below (wr.alloc o1).heap.size (wr.alloc o1) w1)
  (hown2 : w2.ownsRow B 20 1 out' (k + 1) (us ++ [u])) (hg : (w1.alloc o2).grownBy w2 out.ownBlock) (hat : out'.ownBlock = out.ownBlock ∨ out'.ownBlock = some (w1.alloc o2).heap.size) :
  ListInv B w l out' (.int .i64 ((k + 1 : Nat) : Int)) w2 := by
 have s0 := hb.size
 have s1 := hb1.size
 have s2 := hg.size
 simp only [World.size_alloc] at s1 s2
 have hlt := hown.lt
 have k2 : Keeps (FrX B wr out) wr w2 := by
  intro b hbb
  obtain ⟨q1, q2, q3⟩ := hbb
  rw [hg.block b (by simp only [World.size_alloc]; omega) q3, Below.heap_alloc _ _ _ (by omega), hb1.block b (by simp only [World.size_alloc]; omega), Below.heap_alloc _ _ _ q2]
 have g2 : ∀ b, FrX B wr out b → FrX B w2 out' b := by
  rintro b ⟨q1, q2, q3⟩
  refine ⟨q1, by omega, ?_⟩
  rcases hat with e | e <;> rw [e]
  ·exact q3
  ·simp only [World.size_alloc, ne_eq, Option.some.injEq]; omega
 have k3 : Keeps (Fr (wr.alloc o1).heap.size w1) w1 w2 := by
  intro b hbb
  obtain ⟨q1, q2⟩ := hbb
  simp only [World.size_alloc] at q1
  rw [hg.block b (by simp only [World.size_alloc]; omega) (fun e => by have := (hlt b e.symm).2; omega), Below.heap_alloc _ _ _ q2]
 have g3 : ∀ b, Fr (wr.alloc o1).heap.size w1 b → FrX B w2 out' b := by
  rintro b ⟨q1, q2⟩
  simp only [World.size_alloc] at q1
  refine ⟨by omega, by omega, ?_⟩
  rcases hat with e | e <;> rw [e]
  ·intro e'; have := (hlt b e'.symm).2; omega
  ·simp only [World.size_alloc, ne_eq, Option.some.injEq]; omega
 have hr' : l[k] = r := by rw [List.getElem?_eq_getElem hk] at hr; exact Option.some.inj hr
 refine ⟨k + 1, us ++ [u], by omega, rfl, hown2, ?_, ?_⟩
 ·rw [List.take_succ_eq_append_getElem hk, List.map_append, hr']
  have hl : us.length = ((l.take k).map RV.tree).length := by have := hown.1; simp; omega
  exact (hus.keeps k2 g2).snoc hl ((hu.keeps k3).mono g3)
 ·refine ((hb.alloc (by omega) o1).trans (hb1.mono (by simp only [World.size_alloc]; omega))).alloc (by omega) o2 |>.grown hg (by simp only [World.size_alloc]; omega) (fun g e => (hlt g e).1)

theorem frx_fresh {B : Nat} {w : World} {v : Value} (b : Nat) (h : FrX B w v b) : Fr B w b := ⟨h.1, h.2.1⟩

theorem list_end {B : Nat} {wr : World} {l : List RV} {out : Value} {us : List Value} (hown : wr.ownsRow B 20 1 out l.length us) (hus : AnysAt (FrX B wr out) wr (l.map RV.tree) us) (hl : l.length * 88 ≤ R47) :
  AnyAt (Fr B wr) wr (.list (l.map RV.tree)) (.iface 292 out) := by
 have hform : ∃ A c, out = .slice A l.length c ∧ l.length ≤ c ∧ c ≤ maxLen := by
  rcases hown.2 with ⟨e, h0⟩ | ⟨g, cap, cur, e, _, _, h3, h4, _⟩
  ·exact ⟨none, 0, by rw [e, h0], by omega, by unfold maxLen; omega⟩
  ·exact ⟨_, cap, e, h3, h4⟩
 obtain ⟨A, c, rfl, h1, h2⟩ := hform
 have hlt := hown.lt
 have hn : (l.map RV.tree).length = l.length := by simp
 rw [← hn] at hown h1 ⊢
 have hus' : AnysAt (Fr B wr) wr (l.map RV.tree) us := hus.keeps (Keeps.refl _ _) fun b hb => frx_fresh b hb
 refine .list (by simp; unfold R47 at *; omega) h1 h2 (Row.of_own hown fun g hg => ⟨(hlt g (by simpa using hg)).1, (hlt g (by simpa using hg)).2⟩) hus'

set_option maxRecDepth 100000 in
set_option maxHeartbeats 400000 in
theorem plain_list (n : Int) (f : Nat) (s : ByteArray) (kv : Value) (l : List RV) (LA : Option Addr) (lc : Nat) (w : World) (xs : List Value) (hl : l.length * 88 ≤ R47) (ih : AllPlain l)
  (hrow : Row (Old w) w 6 LA l.length xs) (hx : ∀ i r, l[i]? = some r → RVAt (Old w) w r ((xs.drop (i * 6)).take 6)) :
  Calls Tryz.prog 114 #[.agg #[.int .i64 5, .int .i64 n, .float .f64 f, .string s, kv, .slice LA l.length lc]] w (GivesAny (.list (l.map RV.tree)) w) := by
 obtain ⟨i0, hi0, hz0, hz1, hz2⟩ := info_parts any_info
 have hlb : l.length * 88 ≤ 140737488351232 := hl
 have Hl := hide hl
 have Hrow := hide hrow
 have Hx := hide hx
 clear hl hrow hx
 go_enter Tryz.func114, Tryz.ntmps114
 go_wp2_with (at_make; refine wpList_make_own _ rfl _ _ 292 rfl w.heap.size 20 i0 .nilIface 1 Tryz.underlying292 hi0 hz0 hz1 _ _ _ l.length rfl rfl rfl ?b2 ?b3 ?b4 ?_)
 case b2 => rw [hz2]; omega
 case b3 => unfold maxLen; omega
 case b4 => simp
 intro w0 hown0 hgrow0
 have hb0 : Below w.heap.size w w0 := ((Below.refl _ _).alloc (Nat.le_refl _) _).grown hgrow0 (by simp) (fun k h => by cases h)
 obtain ⟨hc0, hf0⟩ := gcell hgrow0
 simp only [World.size_alloc] at hc0 hf0
 go_wp2
 clear hc0 hf0 hgrow0
 go_loopw [3, 38] (fun out ctr wr => ListInv w.heap.size w l out ctr wr) (fun _ ctr _ => l.length - (intOf ctr).toNat)
 case atStart => exact ⟨0, [], Nat.zero_le _, rfl, hown0, fun i t u ht _ => by simp at ht, hb0⟩
 case round =>
  obtain ⟨k, us, hk, rfl, hown, hus, hb⟩ := hrel
  by_cases hlt : k < l.length
  ·have hgk : l[k]? = some l[k] := List.getElem?_eq_getElem hlt
   have hrk := (Hx.out k _ hgk)
   have hih := ih l[k] (List.getElem_mem hlt)
   generalize l[k] = r at hgk hrk hih
   have Hgk := hide hgk
   clear hgk ih hown0
   have hkr := hrk
   generalize hcs : (xs.drop (k * 6)).take 6 = cs at hrk hkr
   cases hrk with
   | @mk kind' n' f' s' keys' l' KA' LA' kc' lc' xs' h1 h2 h3 h4 h5 h6 h7 h8 h9 h10 h11 h12 h13 h14 =>
    clear h1 h2 h3 h4 h5 h6 h7 h8 h9 h10 h11 h12 h13 h14
    obtain ⟨b, o, rfl, hF, k0, k1, k2, k3, k4, k5⟩ := row6_at Hrow.out hlt hcs
    have Hcs := hide hcs
    clear hcs
    have hlt' := hb.block
    rw [← (bcell hb).1 _ _ hF] at k0 k1 k2 k3 k4 k5
    go_wp2_with fail
    refine (hih _ _ (hkr.keeps (Keeps.trans (Keeps.below hb fun x hx => hx) (Keeps.alloc _ _ fun x hx => Nat.lt_of_lt_of_le hx hb.size)) |>.mono (fun x hx => ?_))).mono ?_
    ·simp only [Old, World.size_alloc] at hx ⊢
     have := hb.size
     omega
    rintro e w1 ⟨u, rfl, hu, hb1⟩
    have hcu := hu.one.1
    simp only [Value.cells] at hcu
    have hu1 := hu.one.2
    go_wp2_with (at_builtin; refine wpList_append_own_at _ rfl (.tmp 42) (.tmp 45) 292 rfl w.heap.size 20 i0 .nilIface 1 16 Tryz.underlying292 hi0 hz0 hz1 hz2 rfl (by decide) _ k us rfl ((ownsRow_below (hown.alloc _) hb1 (Nat.le_refl _)).alloc _) ⟨w1.heap.size, 0, none⟩ 1 1 [u] rfl rfl (cell_one_new _ _ _) ?c1 ?c2 ?c3 ?c4 ?_)
    case c1 => intro v hv; rw [List.mem_singleton.1 hv]; exact hu1
    case c2 => unfold maxLen; omega
    case c3 => omega
    case c4 => have := hb.size; have := hb1.size; simp only [World.size_alloc] at *; omega
    intro out' w2 hown2 hg2 _ hat2
    have Hinv := hide (list_step hlt Hgk.out hown hus hb rfl hu hb1 hown2 hg2 (by rw [World.size_alloc]; exact hat2))
    clear hcu hus hown hown2 hu hb1 hg2 hat2 hu1
    go_wp2
    go_roundw
    case rel => exact Hinv.out
    case measure => simp [intOf]; omega
  ·have : k = l.length := by omega
   subst this
   go_wp2
   go_ret
   rw [List.take_length] at hus
   exact ⟨_, rfl, list_end hown hus Hl.out, hb⟩

def FrR (B : Nat) (w : World) (r : Nat) : Nat → Prop := fun b => B ≤ b ∧ b < w.heap.size ∧ b ≠ r

def mapK (keys : List ByteArray) (l : List RV) (k : Nat) : List (ByteArray × T) := mapOf (keys.take k) ((l.map RV.tree).take k)

def PMapInv (w : World) (keys : List ByteArray) (l : List RV) (c5 ctr : Value) (wr : World) : Prop :=
 ∃ (k : Nat) (val : ByteArray → Value), k ≤ keys.length ∧ ctr = .int .i64 k ∧ MapIs wr (w.heap.size + 1) ((mapK keys l k).map Prod.fst) val ∧
  (∀ key t, (key, t) ∈ mapK keys l k → AnyAt (FrR w.heap.size wr (w.heap.size + 1)) wr t (val key)) ∧ wr.cell? ⟨w.heap.size, 5, none⟩ = some c5 ∧ Below w.heap.size w wr

theorem pmap_step {k : Nat} {w wr w1 w2 : World} {keys : List ByteArray} {l : List RV} {val : ByteArray → Value} {c5 u : Value} {r : RV} (hk : k < keys.length) (hl : k < l.length) (hr : l[k]? = some r)
  (hvals : ∀ key t, (key, t) ∈ mapK keys l k → AnyAt (FrR w.heap.size wr (w.heap.size + 1)) wr t (val key)) (hbox : wr.cell? ⟨w.heap.size, 5, none⟩ = some c5) (hb : Below w.heap.size w wr) (hlt : w.heap.size + 1 < wr.heap.size)
  (hu : AnyAt (Fr wr.heap.size w1) w1 r.tree u) (hb1 : Below wr.heap.size wr w1) (hm : MapIs w2 (w.heap.size + 1) ((mapK keys l (k + 1)).map Prod.fst) (fun x => if x = keys[k] then u else val x)) (hg : w1.grownBy w2 (some (w.heap.size + 1))) :
  PMapInv w keys l c5 (.int .i64 ((k + 1 : Nat) : Int)) w2 := by
 have s0 := hb.size
 have s1 := hb1.size
 have s2 := hg.size
 have hr' : l[k] = r := by rw [List.getElem?_eq_getElem hl] at hr; exact Option.some.inj hr
 have k2 : Keeps (FrR w.heap.size wr (w.heap.size + 1)) wr w2 := by
  rintro b ⟨q1, q2, q3⟩
  rw [hg.block b (by omega) (fun e => q3 (Option.some.inj e)), hb1.block b q2]
 have k3 : Keeps (Fr wr.heap.size w1) w1 w2 := by
  rintro b ⟨q1, q2⟩
  rw [hg.block b q2 (fun e => by have := Option.some.inj e; omega)]
 refine ⟨k + 1, _, by omega, rfl, hm, fun key t ht => ?_, ?_, ?_⟩
 ·unfold mapK at ht
  rw [mapOf_take_succ _ _ _ hk (by simpa using hl)] at ht
  have hsrt : Sorted (mapOf (keys.take k) ((l.map RV.tree).take k)) := mapOf_sorted _ _
  rcases (mem_ins_iff hsrt _).1 ht with e | ⟨hin, hne⟩
  ·injection e with e1 e2
   subst e1
   simp only [List.getElem_map, hr'] at e2
   subst e2
   simp only [if_true]
   exact (hu.keeps k3).mono fun b hb => ⟨by have := hb.1; omega, by have := hb.2; omega, by have := hb.1; omega⟩
  ·rw [if_neg hne]
   exact ((hvals key t hin).keeps k2).mono fun b hb => ⟨hb.1, by have := hb.2.1; omega, hb.2.2⟩
 ·rw [(gcell hg).1 _ _ (by omega) (fun e => by have := Option.some.inj e; omega), (bcell hb1).1 _ _ (by omega)]
  exact hbox
 ·exact (hb.trans (hb1.mono s0)).grown hg (by omega) (fun g e => by have := Option.some.inj e; omega)

theorem mapK_all {keys : List ByteArray} {l : List RV} {k : Nat} (h : keys.length ≤ k ∨ l.length ≤ k) : mapK keys l k = mapOf keys (l.map RV.tree) :=
 mapOf_take_all _ _ _ (by simpa using h)

theorem pmap_end {w wr : World} {keys : List ByteArray} {l : List RV} {val : ByteArray → Value} (hm : MapIs wr (w.heap.size + 1) ((mapK keys l keys.length).map Prod.fst) val)
  (hvals : ∀ key t, (key, t) ∈ mapK keys l keys.length → AnyAt (FrR w.heap.size wr (w.heap.size + 1)) wr t (val key)) (hl : l.length * 88 ≤ R47) (hks : ∀ k ∈ keys, k.size ≤ R47) :
  AnyAt (Fr w.heap.size wr) wr (.map (mapOf keys (l.map RV.tree))) (.iface 307 (.map (some (w.heap.size + 1)))) := by
 rw [mapK_all (.inl (Nat.le_refl _))] at hm hvals
 have hlen : (mapOf keys (l.map RV.tree)).length ≤ l.length := by
  have := mapOf_take_length keys (l.map RV.tree) l.length
  rwa [mapOf_take_all _ _ _ (.inr (by simp))] at this
 refine .map (by unfold R47 at *; omega) (fun p hp => ?_) (mapOf_sorted _ _) ⟨by omega, hm.lt⟩ hm fun k t ht => (hvals k t ht).mono fun b hb => ⟨hb.1, hb.2.1⟩
 exact hks _ (mapOf_keys _ _ p hp)

def PMapOK (rv : RV) : Prop := ∀ (w : World) (cs : List Value), RVAt (Old w) w rv cs → Calls Tryz.prog 173 #[.agg cs.toArray] w
 fun e w' => ∃ r, e = .returned (.map (some r)) ∧ AnyAt (Fr w.heap.size w') w' (RV.fieldsOf rv) (.iface 307 (.map (some r))) ∧ Below w.heap.size w w'

set_option maxRecDepth 100000 in
set_option maxHeartbeats 1000000 in
theorem plainMap_ok (kind n : Int) (f : Nat) (s : ByteArray) (keys : List ByteArray) (l : List RV) (ih : AllPlain l) : PMapOK (RV.mk kind n f s keys l) := by
 intro w cs hrv
 cases hrv with
 | @mk _ _ _ _ _ _ KA LA kc lc xs h1 h2 h3 h4 h5 h6 h7 h8 h9 h10 h11 hKrow hLrow hx =>
 have hkl : keys.length ≤ 8796093022208 := by unfold R47 at h6; omega
 have hll : l.length ≤ 8796093022208 := by unfold R47 at h7; omega
 have H7 := hide h7
 have H5 := hide h5
 have HK := hide hKrow
 have HL := hide hLrow
 have HX := hide hx
 clear h1 h2 h3 h4 h5 h6 h7 h8 h9 h10 h11 hKrow hLrow hx
 have hmm := @run_makeMap Tryz.prog
 go_enter Tryz.func173, Tryz.ntmps173
 go_wp2
 go_loopw [10] (fun ctr wr => PMapInv w keys l (.slice LA l.length lc) ctr wr ∧ w.heap.size + 1 < wr.heap.size) (fun ctr _ => keys.length - (intOf ctr).toNat)
 case atStart =>
  refine ⟨⟨0, fun _ => undef, Nat.zero_le _, rfl, ?_, ?_, ?_, ?_⟩, by simp⟩
  ·have := MapIs.made (w.alloc (.cells #[Value.int .i64 kind, Value.int .i64 n, Value.float .f64 f, Value.string s, Value.slice KA keys.length kc, Value.slice LA l.length lc] 27)) (fun _ => undef)
   have e0 : mapK keys l 0 = [] := by simp [mapK, mapOf]
   rw [e0]
   simpa using this
  ·intro key t ht
   simp [mapK, mapOf] at ht
  ·simp
  ·exact ((Below.refl _ _).alloc (Nat.le_refl _) _).alloc (by simp) _
 case round =>
  obtain ⟨⟨k, val, hk, rfl, hmap, hvals, hbox, hb⟩, hlt0⟩ := hrel
  by_cases hlt : k < keys.length
  ·obtain ⟨kb, ko, rfl, hkF, hkc⟩ := row1_at (u := Value.string keys[k]) HK.out hlt (by simp [hlt])
   rw [← (bcell hb).1 _ _ hkF] at hkc
   by_cases hl : k < l.length
   ·have hgk : l[k]? = some l[k] := List.getElem?_eq_getElem hl
    have hrk := (HX.out k _ hgk)
    have hih := ih l[k] (List.getElem_mem hl)
    generalize l[k] = r at hgk hrk hih
    have Hgk := hide hgk
    clear hgk
    have hkr := hrk
    generalize hcs : (xs.drop (k * 6)).take 6 = cs at hrk hkr
    cases hrk with
    | @mk kind' n' f' s' keys' l' KA' LA' kc' lc' xs' h1 h2 h3 h4 h5 h6 h7 h8 h9 h10 h11 h12 h13 h14 =>
     clear h1 h2 h3 h4 h5 h6 h7 h8 h9 h10 h11 h12 h13 h14
     obtain ⟨b, o, rfl, hF, k0, k1, k2, k3, k4, k5⟩ := row6_at HL.out hl hcs
     have Hcs := hide hcs
     clear hcs
     rw [← (bcell hb).1 _ _ hF] at k0 k1 k2 k3 k4 k5
     go_wp2_with fail
     refine (hih _ _ (hkr.keeps (Keeps.below hb fun x hx => hx) |>.mono (fun x hx => ?_))).mono ?_
     ·simp only [Old] at hx ⊢
      have := hb.size
      omega
     rintro e w1 ⟨u, rfl, hu, hb1⟩
     have hsrt : Sorted (mapK keys l (k + 1)) := mapOf_sorted _ _
     have hks' : ∀ x, x ∈ (mapK keys l (k + 1)).map Prod.fst ↔ x = keys[k] ∨ x ∈ (mapK keys l k).map Prod.fst := by
      intro x
      unfold mapK
      rw [mapOf_take_succ _ _ _ hlt (by simpa using hl)]
      exact keys_ins (mapOf_sorted _ _) x
     have hmap1 : MapIs w1 (w.heap.size + 1) ((mapK keys l k).map Prod.fst) val := hmap.keep (hb1.block _ hlt0)
     go_wp2_with (at_mapUpdate; refine wpList_update_is _ rfl _ _ _ _ rfl 9 20 Tryz.underlying307 Tryz.underlying9 (w.heap.size + 1) _ val rfl hmap1 keys[k] u rfl rfl _ (sorted_nodup hsrt) hks' ?_)
     intro w2 hmap2 hg2 hsz2
     have Hinv := hide (pmap_step hlt hl Hgk.out hvals hbox hb hlt0 hu hb1 hmap2 hg2)
     have hlt2 : w.heap.size + 1 < w2.heap.size := by have := hb1.size; omega
     clear hks' hmap1 hmap2 hg2 hu hb1 hvals
     go_wp2
     go_roundw
     case rel => exact ⟨Hinv.out, hlt2⟩
     case measure => simp [intOf]; omega
   ·go_wp2
    go_roundw
    case rel =>
     refine ⟨⟨k + 1, val, by omega, by go_num, ?_, ?_, hbox, hb⟩, hlt0⟩
     ·rw [mapK_all (k := k + 1) (.inr (by omega)), ← mapK_all (k := k) (.inr (by omega))]; exact hmap
     ·rw [mapK_all (k := k + 1) (.inr (by omega)), ← mapK_all (k := k) (.inr (by omega))]; exact hvals
    case measure => simp [intOf]; omega
  ·have : k = keys.length := by omega
   subst this
   go_wp2
   go_ret
   exact ⟨_, rfl, pmap_end hmap hvals H7.out H5.out, hb⟩

set_option maxRecDepth 100000 in
set_option maxHeartbeats 400000 in
theorem plain_map (n : Int) (f : Nat) (s : ByteArray) (keys : List ByteArray) (l : List RV) (w : World) (cs : List Value) (hm : PMapOK (.mk 6 n f s keys l)) (hrv : RVAt (Old w) w (.mk 6 n f s keys l) cs) :
  Calls Tryz.prog 114 #[.agg cs.toArray] w (GivesAny (RV.mk 6 n f s keys l).tree w) := by
 have ht : (RV.mk 6 n f s keys l).tree = RV.fieldsOf (.mk 6 n f s keys l) := by simp [RV.tree, RV.fieldsOf, treeL_eq]
 rw [ht]
 have hrv' := hrv
 cases hrv' with
 | mk h1 h2 h3 h4 h5 h6 h7 h8 h9 h10 h11 h12 h13 h14 =>
 clear h1 h2 h3 h4 h5 h6 h7 h8 h9 h10 h11 h12 h13 h14 ht
 go_enter Tryz.func114, Tryz.ntmps114
 go_wp2_with fail
 refine (hm _ _ ((hrv.keeps (Keeps.alloc _ _ fun x hx => hx)).mono (fun x hx => by simp only [Old, World.size_alloc] at hx ⊢; omega))).mono ?_
 rintro e w1 ⟨r, rfl, hu, hb1⟩
 go_wp2
 go_ret
 exact ⟨_, rfl, hu.mono (fun b hb => ⟨by have := hb.1; simp only [World.size_alloc] at this; omega, hb.2⟩), ((Below.refl _ _).alloc (Nat.le_refl _) _).trans (hb1.mono (by simp only [World.size_alloc]; omega))⟩

theorem plain_all : ∀ (m : Nat) (rv : RV), rv.rank < m → PlainOK rv
 | 0, _, h => absurd h (by omega)
 | m + 1, .mk kind n f s keys l, h => by
  have ih : AllPlain l := fun r hr => plain_all m r (by have := RV.rank_lt (kind := kind) (n := n) (f := f) (s := s) (keys := keys) hr; omega)
  intro w cs hrv
  by_cases h5 : kind = 5
  ·subst h5
   have ht : (RV.mk 5 n f s keys l).tree = .list (l.map RV.tree) := by simp [RV.tree, treeL_eq]
   rw [ht]
   cases hrv with
   | mk _ _ _ _ _ _ h7 _ _ _ _ _ h13 h14 => exact plain_list n f s _ l _ _ w _ h7 ih h13 h14
  by_cases h6 : kind = 6
  ·subst h6
   exact plain_map n f s keys l w cs (plainMap_ok 6 n f s keys l ih) hrv
  cases hrv with
  | mk h1 h2 h3 h4 _ _ _ _ _ _ _ _ _ _ => exact plain_scalar kind n f s keys l _ _ w h5 h6 h2 h3 h4

theorem plain_calls (rv : RV) : PlainOK rv := plain_all _ rv (Nat.lt_succ_self _)
end Go.Proofs.YtbicoknghdgahaaGreat

namespace Go.Proofs.YtbicoknghdgahaaGreat
open Go.RowKit
attribute [local go_sem] run_store_float

attribute [local go_sem] ta_ok0 ta_nil0 ta_hit0 ta_ok1 ta_nil1 ta_hit1 ta_ok2 ta_nil2 ta_hit2 ta_ok3 ta_nil3 ta_hit3 ta_ok4 ta_nil4 ta_hit4 ta_ok5 ta_nil5 ta_hit5 ta_ok6 ta_nil6 ta_hit6 ta_ok7 ta_nil7 ta_hit7 ta_ok8 ta_nil8 ta_hit8 ta_ok9 ta_nil9 ta_hit9 ta_ok10 ta_nil10 ta_hit10 ta_ok11 ta_nil11 ta_hit11 ta_ok12 ta_nil12 ta_hit12 ta_ok13 ta_nil13 ta_hit13 ta_ok14 ta_nil14 ta_hit14

theorem meth_Unstructured (n : Nat) (a : Addr) (w : World) : (method (n + 1) 302 (.pointer (some a)) "Unstructured").run Tryz.prog w = (Sem.load .plain a fun v => .pure (322, .agg #[v])).run Tryz.prog w := by kernel_rfl

set_option maxRecDepth 100000 in
theorem Unstructured_calls {F : Nat → Prop} {W : World} {t : T} {u : Value} (h : AnyAt F W t u) (w : World) :
  Calls Tryz.prog 322 #[.agg #[u]] w fun e w' => e = .returned u ∧ w.alloc (.cells #[u] 343) = w' := by
 cases h
 all_goals
  go_enter Tryz.func322, Tryz.ntmps322
  go_wp2
  go_ret
  exact ⟨rfl, rfl⟩
end Go.Proofs.YtbicoknghdgahaaGreat

namespace Go.Proofs.YtbicoknghdgahaaGreat
open Go.RowKit
attribute [local go_sem] run_store_float

def GivesVal (t : T) (w : World) (e : Ending) (w' : World) : Prop := ∃ v, e = .returned v ∧ ValAt (Fr w.heap.size w') w' t v ∧ Below w.heap.size w w'

set_option maxRecDepth 100000 in
theorem newValue_calls {F : Nat → Prop} {W : World} {t : T} {u : Value} (h : AnyAt F W t u) (w : World) :
  Calls Tryz.prog 113 #[u] w fun e w' => e = .returned (.iface 302 (.pointer (some ⟨w.heap.size + 1, 0, none⟩))) ∧ (w.alloc (.cells #[] 305)).alloc (.cells #[u] 343) = w' := by
 cases h
 all_goals
  go_enter Tryz.func113, Tryz.ntmps113
  go_wp2
  go_ret
  exact ⟨rfl, rfl⟩

set_option maxRecDepth 100000 in
theorem toValue_calls (rv : RV) (w : World) (cs : List Value) (hrv : RVAt (Old w) w rv cs) :
  Calls Tryz.prog 62 #[.agg cs.toArray] w (GivesVal rv.tree w) := by
 have Hrv := hide hrv
 cases hrv with
 | @mk kind n f s keys l KA LA kc lc xs h1 h2 h3 h4 h5 h6 h7 h8 h9 h10 h11 hKrow hLrow hx =>
 clear h1 h2 h3 h4 h5 h6 h7 h8 h9 h10 h11 hKrow hLrow hx
 have hpl := plain_calls (.mk kind n f s keys l)
 have Hpl := hide hpl
 clear hpl
 go_enter Tryz.func62, Tryz.ntmps62
 go_wp2_with fail
 refine (Hpl.out _ _ ((Hrv.out.keeps (Keeps.alloc _ _ fun x hx => hx)).mono (fun x hx => by simp only [Old, World.size_alloc] at hx ⊢; omega))).mono ?_
 rintro e w1 ⟨u, rfl, hu, hb1⟩
 go_wp2_with fail
 refine (newValue_calls hu w1).mono ?_
 rintro e w2 ⟨rfl, rfl⟩
 go_wp2
 go_ret
 have hbw : Below w.heap.size w w1 := ((Below.refl _ _).alloc (Nat.le_refl _) _).trans (hb1.mono (by simp))
 have hs := hbw.size
 refine ⟨_, rfl, ⟨w1.heap.size + 1, u, rfl, ⟨by omega, by simp⟩, ?_, ?_⟩, (hbw.alloc (by omega) _).alloc (by simp; omega) _⟩
 ·have := Bk.new (w1.alloc (.cells #[] 305)) 343 #[u]
  simpa using this
 ·refine (hu.keeps ?_).mono fun b hb => ⟨by have := hb.1; simp only [World.size_alloc] at this; omega, by have := hb.2; simp; omega⟩
  exact Keeps.trans (Keeps.alloc _ _ fun x hx => hx.2) (Keeps.alloc _ _ fun x hx => Nat.lt_of_lt_of_le hx.2 (by simp))

end Go.Proofs.YtbicoknghdgahaaGreat
