/- Parts: Spec, ElemOk, RowE, Sep. -/
import Derived.Test.YtbicoknghdgahaaGreatKB17
set_option linter.unusedVariables false
set_option linter.unusedSimpArgs false
namespace Go.Proofs.YtbicoknghdgahaaGreat

end Go.Proofs.YtbicoknghdgahaaGreat

namespace Go.Proofs.YtbicoknghdgahaaGreat
open Go.RowKit
attribute [local go_sem] run_store_float

def GivesBound (p : Prop) (w : World) (e : Ending) (w' : World) : Prop := ∃ b : Bool, e = .returned (.bool b) ∧ (b = true → p) ∧ Below w.heap.size w w'

def ZInv (w : World) (n : Nat) (ctr : Value) (wr : World) : Prop := ∃ k : Nat, k ≤ n ∧ ctr = .int .i64 k ∧ wr = w

set_option maxRecDepth 100000 in
theorem zzFits2_calls (keys : List ByteArray) (A : Option Addr) (c : Nat) (w : World) (h16 : keys.length * 16 ≤ R47) (hks : ∀ k ∈ keys, k.size ≤ R47) (hrow : Row (Old w) w 1 A keys.length (keys.map Value.string)) :
  Calls Tryz.prog 58 #[.slice A keys.length c] w (GivesBound (keys.length ≤ 2147483647) w) := by
 have hlb : keys.length ≤ 8796093022208 := by unfold R47 at h16; omega
 have Hrow := hide hrow
 have Hks := hide hks
 clear hrow hks h16
 by_cases hbig : (keys.length : Int) ≤ 2147483647
 ·go_enter Tryz.func58, Tryz.ntmps58
  go_wp2
  go_loopw [10] (fun ctr wr => ZInv w keys.length ctr wr) (fun ctr _ => keys.length - (intOf ctr).toNat)
  case atStart => exact ⟨0, Nat.zero_le _, rfl, rfl⟩
  case round =>
   obtain ⟨k, hk, rfl, rfl⟩ := hrel
   by_cases hlt : k < keys.length
   ·obtain ⟨b, o, rfl, hF, hc⟩ := row1_at (u := Value.string keys[k]) Hrow.out hlt (by simp [hlt])
    have hki0 : (0 : Int) ≤ (k : Int) := Int.natCast_nonneg _
    have hki1 : (k : Int) < (keys.length : Int) := by omega
    have hsz : keys[k].size ≤ 140737488351232 := Hks.out _ (List.getElem_mem hlt)
    by_cases hs : (keys[k].size : Int) ≤ 2147483647
    ·go_wp2
     go_roundw
     case rel => exact ⟨k + 1, by omega, by simp, rfl⟩
     case measure => simp [intOf]; omega
    ·go_wp2
     go_ret
     exact ⟨false, rfl, by simp, Below.refl _ _⟩
   ·have hki1 : ¬ (k : Int) < (keys.length : Int) := by omega
    go_wp2
    go_ret
    exact ⟨true, rfl, fun _ => by omega, Below.refl _ _⟩
 ·go_enter Tryz.func58, Tryz.ntmps58
  go_wp2
  go_ret
  exact ⟨false, rfl, by simp, Below.refl _ _⟩

end Go.Proofs.YtbicoknghdgahaaGreat

namespace Go.Proofs.YtbicoknghdgahaaGreat
open Go.RowKit
attribute [local go_sem] run_store_float

end Go.Proofs.YtbicoknghdgahaaGreat

namespace Go.Proofs.YtbicoknghdgahaaGreat
open Go.RowKit
attribute [local go_sem] run_store_float

end Go.Proofs.YtbicoknghdgahaaGreat

namespace Go.Proofs.YtbicoknghdgahaaGreat
open Go.RowKit
attribute [local go_sem] run_store_float

end Go.Proofs.YtbicoknghdgahaaGreat

namespace Go.Proofs.YtbicoknghdgahaaGreat
open Go.RowKit
attribute [local go_sem] run_store_float

end Go.Proofs.YtbicoknghdgahaaGreat

namespace Go.Proofs.YtbicoknghdgahaaGreat
open Go.RowKit
attribute [local go_sem] run_store_float

def AnyB (w : World) (e : Ending) (w' : World) : Prop := (∃ b, e = .returned (.bool b)) ∧ Below w.heap.size w w'

set_option maxRecDepth 100000 in
set_option maxHeartbeats 4000000 in
theorem zzFits13_calls (r : REl) (w : World) (cs : List Value) (h : ElemAt (Old w) w r cs) : Calls Tryz.prog 14 #[.agg cs.toArray] w (AnyB w) := by
 have hst : r.s.size ≤ 140737488351232 := by
  cases h with
  | mk h1 h2 h3 h4 h5 => exact h2
 have hll : r.l.length ≤ 8796093022208 := by
  cases h with
  | mk h1 h2 h3 h4 h5 =>
   cases h3 with
   | mk g1 g2 g3 g4 g5 g6 g7 => unfold R47 at g7; simp only; omega
 obtain ⟨a0, a1, a2, a3, a4, a5, a6, a7, a8, a9, aa, ab, ac, ad, ae, af, ag, ah, ai, rfl⟩ := h.form
 have hs : a1 = r.s := by cases h; rfl
 obtain ⟨rfl, rfl, h16, hks, hrow⟩ := h.rows
 subst hs
 have HK := hide fun (W : World) (hb : Below w.heap.size w W) => zzFits2_calls r.keys a2 a4 W h16 hks ((hrow.keeps (Keeps.below hb fun _ h => h)).mono fun _ h => Nat.lt_of_lt_of_le h hb.size)
 clear h h16 hks hrow
 generalize r.keys = keys at *
 generalize r.l = l at *
 generalize r.s = s at *
 by_cases hsz : (s.size : Int) ≤ 2147483647
 case neg =>
  go_enter Tryz.func14, Tryz.ntmps14
  go_wp2
  go_ret
  exact ⟨⟨_, rfl⟩, (Below.refl _ _).alloc (Nat.le_refl _) _⟩
 go_enter Tryz.func14, Tryz.ntmps14
 go_wp2_with fail
 have hb0 : Below w.heap.size w (w.alloc (.cells #[.int .i64 a0, .string s, .slice a2 keys.length a4, .slice a5 l.length a7, .int .i64 a8, .int .i64 a9, .float .f64 aa, .string ab, .slice ac ad ae, .slice af ag ah, .int .i64 ai] 29)) := (Below.refl _ _).alloc (Nat.le_refl _) _
 have hB0 := Bk.new w 29 #[.int .i64 a0, .string s, .slice a2 keys.length a4, .slice a5 l.length a7, .int .i64 a8, .int .i64 a9, .float .f64 aa, .string ab, .slice ac ad ae, .slice af ag ah, .int .i64 ai]
 generalize World.alloc _ _ = W at hb0 hB0 ⊢
 refine (HK.out _ hb0).mono ?_
 rintro e w1 ⟨b, rfl, -, hb1⟩
 have hB1 := hB0.below hb1 hB0.lt
 obtain ⟨p0, p1, p2, p3, p4, p5, p6, p7, p8, p9, p10⟩ := hB1.cells11
 have Hb := hide (hb0.trans (hb1.mono hb0.size))
 clear hb0 hB0 hb1 hB1
 cases b
 ·go_wp2
  go_ret
  exact ⟨⟨_, rfl⟩, Hb.out⟩
 by_cases hlz : (l.length : Int) ≤ 2147483647
 ·go_wp2
  go_ret
  exact ⟨⟨_, rfl⟩, Hb.out⟩
 ·go_wp2
  go_ret
  exact ⟨⟨_, rfl⟩, Hb.out⟩

end Go.Proofs.YtbicoknghdgahaaGreat

namespace Go.Proofs.YtbicoknghdgahaaGreat
open Go.RowKit Go.ChangeShapes Go.WideShapes

section
variable {H : Type} {enc : TypeId × Value → H} {w : World}

theorem open_Elem {v : Value} {d : DataW H} {ps : List MemPlace} (h : DataW.Trod enc Tryz.prog w 0 (fun _ => true) true 29 v d ps) (hw : Small 29 d) : ∃ r cs, v = .agg cs.toArray ∧ ElemAt (Old w) w r cs := by
 obtain ⟨fuel, hf⟩ := h
 obtain ⟨r, hr⟩ := open_elem hf hw
 refine ⟨r, v.cells.toList, ?_, hr⟩
 obtain ⟨a0, a1, a2, a3, a4, a5, a6, a7, a8, a9, aa, ab, ac, ad, ae, af, ag, ah, ai, e⟩ := hr.form
 cases v
 case agg vs => rw [show (Value.agg vs).cells = vs from rfl, Array.toArray_toList]
 all_goals simp [Value.cells] at e

end
end Go.Proofs.YtbicoknghdgahaaGreat

namespace Go.Proofs.YtbicoknghdgahaaGreat
open Go.RowKit Go.MapKept

theorem mapIs_keys {w : World} {r : Nat} {ks ks' : List ByteArray} {val val' : ByteArray → Value} (h : MapIs w r ks val) (h' : MapIs w r ks' val') : (∀ k, k ∈ ks → k ∈ ks' ∧ val k = val' k) := by
 intro k hk
 obtain ⟨es, clock, hb, hs, hn, h1, h2⟩ := h.ex
 obtain ⟨es', clock', hb', hs', hn', h1', h2'⟩ := h'.ex
 rw [hb] at hb'
 cases hb'
 obtain ⟨e, he, hek⟩ := h2 k hk
 obtain ⟨k1, hk1, hin1, hv1⟩ := h1 e he
 obtain ⟨k2, hk2, hin2, hv2⟩ := h1' e he
 rw [hek] at hk1 hk2
 injection hk1 with hk1
 injection hk2 with hk2
 subst hk1
 subst hk2
 exact ⟨hin2, hv1.symm.trans hv2⟩

theorem keys_values_eq {l l' : List (ByteArray × T)} (hk : l.map Prod.fst = l'.map Prod.fst) (hn : (l.map Prod.fst).Nodup) (h : ∀ k t t', (k, t) ∈ l → (k, t') ∈ l' → t = t') : l = l' := by
 induction l generalizing l' with
 | nil =>
  cases l' with
  | nil => rfl
  | cons q r => simp at hk
 | cons p r ih =>
  cases l' with
  | nil => simp at hk
  | cons q r' =>
   obtain ⟨k, t⟩ := p
   obtain ⟨k', t'⟩ := q
   simp only [List.map_cons, List.cons.injEq] at hk
   obtain ⟨rfl, hk⟩ := hk
   have e := h k t t' (by simp) (by simp)
   subst e
   rw [List.map_cons, List.nodup_cons] at hn
   rw [ih hk hn.2 fun k t t' h1 h2 => h k t t' (List.mem_cons_of_mem _ h1) (List.mem_cons_of_mem _ h2)]

theorem AnyAt.det {F G : Nat → Prop} {w : World} {t : T} {u : Value} (h : AnyAt F w t u) : ∀ t', AnyAt G w t' u → t = t' := by
 induction h with
 | null => intro t' h'; cases h'; rfl
 | bool b => intro t' h'; cases h'; rfl
 | int _ => intro t' h'; cases h'; rfl
 | flt _ => intro t' h'; cases h'; rfl
 | str _ => intro t' h'; cases h'; rfl
 | @list l A c xs h1 h2 h3 h4 h5 ih =>
  intro t' h'
  generalize hu : Value.iface 292 (.slice A l.length c) = u at h'
  cases h' with
  | @list l' A' c' xs' g1 g2 g3 g4 g5 =>
   injection hu with _ hu
   injection hu with hA hl hc
   subst hA; subst hc
   congr 1
   refine List.ext_getElem hl fun i hi hi' => ?_
   have hx : i < xs.length := by have := h4.1; omega
   have hx' : i < xs'.length := by have := g4.1; omega
   obtain ⟨b, o, e, _, hc⟩ := h4.2 (by omega)
   obtain ⟨b', o', e', _, hc'⟩ := g4.2 (by omega)
   rw [e] at e'
   cases e'
   have q1 := hc i xs[i] (List.getElem?_eq_getElem hx)
   have q2 := hc' i xs'[i] (List.getElem?_eq_getElem hx')
   rw [q1] at q2
   have q3 : xs[i] = xs'[i] := Option.some.inj q2
   refine ih i l[i] xs[i] (List.getElem?_eq_getElem hi) (List.getElem?_eq_getElem hx) _ ?_
   rw [q3]
   exact g5 i _ _ (List.getElem?_eq_getElem hi') (List.getElem?_eq_getElem hx')
  | null => cases hu
  | bool _ => cases hu
  | int _ => cases hu
  | flt _ => cases hu
  | str _ => cases hu
  | map _ _ _ _ _ _ => cases hu
 | @map l r val h1 h2 h3 h4 h5 h6 ih =>
  intro t' h'
  generalize hu : Value.iface 307 (.map (some r)) = u at h'
  cases h' with
  | @map l' r' val' g1 g2 g3 g4 g5 g6 =>
   injection hu with _ hu
   injection hu with hu
   injection hu with hu
   subst hu
   have e1 := mapIs_keys h5 g5
   have e2 := mapIs_keys g5 h5
   have hk : l.map Prod.fst = l'.map Prod.fst := sortK_ext (sortK_of h3) (sortK_of g3) fun k => ⟨fun h => (e1 k h).1, fun h => (e2 k h).1⟩
   congr 1
   refine keys_values_eq hk (sorted_nodup h3) fun k t t' ht ht' => ih k t ht t' ?_
   rw [(e1 k (List.mem_map.2 ⟨_, ht, rfl⟩)).2]
   exact g6 k t' ht'
  | null => cases hu
  | bool _ => cases hu
  | int _ => cases hu
  | flt _ => cases hu
  | str _ => cases hu
  | list _ _ _ _ _ => cases hu

theorem AnyAt.beside {F G : Nat → Prop} {w : World} {L : T} {r : Nat} {m : Nat} (hL : AnyAt G w L (.iface 307 (.map (some r)))) (hm : L.rank = m) {t : T} {u : Value} (h : AnyAt F w t u) : t.rank < m → AnyAt (fun b => F b ∧ b ≠ r) w t u := by
 have hmap : ∃ es clock, w.heap[r]? = some (.map es clock) := by
  generalize hu : Value.iface 307 (.map (some r)) = u at hL
  cases hL with
  | map _ _ _ _ h5 _ =>
   injection hu with _ hu
   injection hu with hu
   injection hu with hu
   subst hu
   obtain ⟨es, clock, hb, _⟩ := h5.ex
   exact ⟨es, clock, hb⟩
  | null => cases hu
  | bool _ => cases hu
  | int _ => cases hu
  | flt _ => cases hu
  | str _ => cases hu
  | list _ _ _ _ _ => cases hu
 induction h with
 | null => intro _; exact .null
 | bool b => intro _; exact .bool b
 | int h => intro _; exact .int h
 | flt h => intro _; exact .flt h
 | str h => intro _; exact .str h
 | @list l A c xs h1 h2 h3 h4 h5 ih =>
  intro hr
  refine .list h1 h2 h3 ⟨h4.1, fun hn => ?_⟩ fun i t u ht hu => ih i t u ht hu (Nat.lt_trans (T.rank_list (List.mem_of_getElem? ht)) hr)
  obtain ⟨b, o, e, hF, hc⟩ := h4.2 hn
  refine ⟨b, o, e, ⟨hF, ?_⟩, hc⟩
  rintro rfl
  obtain ⟨es, clock, hb⟩ := hmap
  have hx : 0 < xs.length := by have := h4.1; omega
  have := hc 0 xs[0] (List.getElem?_eq_getElem hx)
  simp [World.cell?, hb] at this
 | @map l r' val h1 h2 h3 h4 h5 h6 ih =>
  intro hr
  refine .map h1 h2 h3 ⟨h4, ?_⟩ h5 fun k t ht => ih k t ht (Nat.lt_trans (T.rank_map ht) hr)
  rintro rfl
  have := hL.det _ (AnyAt.map h1 h2 h3 h4 h5 h6)
  rw [this] at hm
  omega

theorem AnyAt.items {F : Nat → Prop} {w : World} {l : List (ByteArray × T)} {r : Nat} (h : AnyAt F w (.map l) (.iface 307 (.map (some r)))) :
  ∃ val, MapIs w r (l.map Prod.fst) val ∧ Sorted l ∧ l.length * 88 ≤ R47 ∧ (∀ p ∈ l, p.1.size ≤ R47) ∧ F r ∧ ∀ k t, (k, t) ∈ l → AnyAt (fun b => F b ∧ b ≠ r) w t (val k) := by
 have h' := h
 generalize hu : Value.iface 307 (.map (some r)) = u at h'
 generalize hl : T.map l = t at h'
 cases h' with
 | @map l' r' val' g1 g2 g3 g4 g5 g6 =>
  injection hl with hl
  injection hu with _ hu
  injection hu with hu
  injection hu with hu
  subst hl; subst hu
  exact ⟨val', g5, g3, g1, g2, g4, fun k t ht => AnyAt.beside h rfl (g6 k t ht) (T.rank_map ht)⟩
 | null => cases hu
 | bool _ => cases hu
 | int _ => cases hu
 | flt _ => cases hu
 | str _ => cases hu
 | list _ _ _ _ _ => cases hu

end Go.Proofs.YtbicoknghdgahaaGreat
