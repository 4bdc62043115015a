/- Parts: ElemImpl, SpecO. -/
import Derived.Test.YtbicoknghdgahaaGreatKB07
set_option linter.unusedVariables false
set_option linter.unusedSimpArgs false
namespace Go.Proofs.YtbicoknghdgahaaGreat
open Go.RowKit
attribute [local go_sem] run_store_float

structure BB (w : World) (t : TypeId) (a b : Array Value) (W : World) : Prop where
 below : Below w.heap.size w W
 a : Bk W w.heap.size t a
 b : Bk W (w.heap.size + 1) t b
theorem BB.call {w W W' : World} {t : TypeId} {a b : Array Value} (h : BB w t a b W) (hb : Below W.heap.size W W') : BB w t a b W' :=
 ⟨h.below.trans (hb.mono h.below.size), h.a.below hb h.a.lt, h.b.below hb h.b.lt⟩
theorem BB.made (w : World) (t : TypeId) (a b : Array Value) : BB w t a b ((w.alloc (.cells a t)).alloc (.cells b t)) := by
 refine ⟨below_two w _ _, (Bk.new _ _ _).alloc _, ?_⟩
 have := Bk.new (w.alloc (.cells a t)) t b
 simpa only [World.size_alloc] using this

end Go.Proofs.YtbicoknghdgahaaGreat

namespace Go.Proofs.YtbicoknghdgahaaGreat
open Go.RowKit
attribute [local go_sem] run_store_float

theorem specFloats_calls (a b : Nat) (w : World) : Calls Tryz.prog 256 #[.float .f64 a, .float .f64 b] w fun e w' => e = .returned (.int .i64 (fcmp a b)) ∧ w = w' := by
 unfold fcmp
 generalize ho : FloatKind.f64.format.order a b = o
 rcases o with _ | (_ | _ | _)
 all_goals
  go_enter Tryz.func256, Tryz.ntmps256
  go_wp2
  go_ret
  exact ⟨rfl, rfl⟩

def TAt (w : World) (t : T) (cs : List Value) : Prop := RVAt (Old w) w t.toRV cs
theorem TAt.at_ {w W : World} {t : T} {cs : List Value} (h : TAt w t cs) (hb : Below w.heap.size w W) : TAt W t cs := RVAt.at_ h hb

set_option maxRecDepth 100000 in
theorem kindRank_calls (t : T) (w : World) (cs : List Value) (h : TAt w t cs) : Calls Tryz.prog 255 #[.agg cs.toArray] w fun e w' => e = .returned (.int .i64 t.ord) ∧ Below w.heap.size w w' := by
 have hb1 : ∀ o : Obj, Below w.heap.size w (w.alloc o) := fun o => (Below.refl _ _).alloc (Nat.le_refl _) _
 rcases t with _ | ⟨_ | _⟩ | n | f | s | l | m
 all_goals
  unfold TAt T.toRV at h
  cases h with
  | @mk _ _ _ _ _ _ KA LA kc lc xs h1 h2 h3 h4 h5 h6 h7 h8 h9 h10 h11 hKrow hLrow hx =>
  clear h1 h2 h3 h4 h5 h6 h7 h8 h9 h10 h11 hKrow hLrow hx
  go_enter Tryz.func255, Tryz.ntmps255
  go_wp2
  go_ret
  exact ⟨rfl, hb1 _⟩

def T.asF : T → Nat
 | .int n => toF n
 | .flt f => f
 | _ => 0
set_option maxRecDepth 100000 in
theorem asFloat_calls (t : T) (w : World) (cs : List Value) (h : TAt w t cs) (hn : t.isNum = true) : Calls Tryz.prog 150 #[.agg cs.toArray] w fun e w' => e = .returned (.float .f64 t.asF) ∧ Below w.heap.size w w' := by
 have hb1 : ∀ o : Obj, Below w.heap.size w (w.alloc o) := fun o => (Below.refl _ _).alloc (Nat.le_refl _) _
 cases t <;> simp [T.isNum] at hn
 all_goals
  unfold TAt T.toRV at h
  cases h with
  | @mk _ _ _ _ _ _ KA LA kc lc xs h1 h2 h3 h4 h5 h6 h7 h8 h9 h10 h11 hKrow hLrow hx =>
  clear h1 h2 h3 h4 h5 h6 h7 h8 h9 h10 h11 hKrow hLrow hx
  go_enter Tryz.func150, Tryz.ntmps150
  go_wp2
  go_ret
  exact ⟨rfl, hb1 _⟩
set_option maxRecDepth 100000 in
theorem number_calls (t : T) (w : World) (cs : List Value) (h : TAt w t cs) : Calls Tryz.prog 149 #[.agg cs.toArray] w fun e w' => e = .returned (.bool t.isNum) ∧ Below w.heap.size w w' := by
 have hb1 : ∀ o : Obj, Below w.heap.size w (w.alloc o) := fun o => (Below.refl _ _).alloc (Nat.le_refl _) _
 rcases t with _ | ⟨_ | _⟩ | n | f | s | l | m
 all_goals
  unfold TAt T.toRV at h
  cases h with
  | @mk _ _ _ _ _ _ KA LA kc lc xs h1 h2 h3 h4 h5 h6 h7 h8 h9 h10 h11 hKrow hLrow hx =>
  clear h1 h2 h3 h4 h5 h6 h7 h8 h9 h10 h11 hKrow hLrow hx
  go_enter Tryz.func149, Tryz.ntmps149
  go_wp2
  go_ret
  exact ⟨rfl, hb1 _⟩

def SpecCmpOK (a b : T) : Prop := ∀ (w : World) (cs1 cs2 : List Value), TAt w a cs1 → TAt w b cs2 → Calls Tryz.prog 239 #[.agg cs1.toArray, .agg cs2.toArray] w (CmpPost (T.cmp a b) w)

def TsAt (w : World) (A : Option Addr) (l : List T) : Prop := ∃ xs, Row (Old w) w 6 A l.length xs ∧ ∀ (i : Nat) t, l[i]? = some t → TAt w t ((xs.drop (i * 6)).take 6)
theorem TsAt.at_ {w W : World} {A : Option Addr} {l : List T} (h : TsAt w A l) (hb : Below w.heap.size w W) : TsAt W A l := by
 obtain ⟨xs, h1, h2⟩ := h
 exact ⟨xs, (h1.keeps (Keeps.below hb fun _ h => h)).mono fun _ h => Nat.lt_of_lt_of_le h hb.size, fun i t ht => (h2 i t ht).at_ hb⟩
theorem TsAt.elem {w : World} {A : Option Addr} {l : List T} (h : TsAt w A l) {k : Nat} (hk : k < l.length) : ∃ b o c0 c1 c2 c3 c4 c5, A = some ⟨b, o, none⟩ ∧ b < w.heap.size ∧ TAt w l[k] [c0, c1, c2, c3, c4, c5] ∧
  w.cell? ⟨b, o + k * 6, none⟩ = some c0 ∧ w.cell? ⟨b, o + k * 6 + 1, none⟩ = some c1 ∧ w.cell? ⟨b, o + k * 6 + 2, none⟩ = some c2 ∧ w.cell? ⟨b, o + k * 6 + 3, none⟩ = some c3 ∧ w.cell? ⟨b, o + k * 6 + 4, none⟩ = some c4 ∧ w.cell? ⟨b, o + k * 6 + 5, none⟩ = some c5 := by
 obtain ⟨xs, h1, h2⟩ := h
 have ht := h2 k l[k] (List.getElem?_eq_getElem hk)
 generalize hcs : (xs.drop (k * 6)).take 6 = cs at ht
 obtain ⟨c0, c1, c2, c3, c4, c5, rfl⟩ := RVAt.six ht
 obtain ⟨b, o, rfl, hF, k0, k1, k2, k3, k4, k5⟩ := row6_at h1 hk hcs
 exact ⟨b, o, c0, c1, c2, c3, c4, c5, rfl, hF, ht, k0, k1, k2, k3, k4, k5⟩

theorem cmpL_end {l1 l2 : List T} {k : Nat} (h1 : k ≤ l1.length) (h2 : k ≤ l2.length) (h : l1.length ≤ k ∨ l2.length ≤ k) : T.cmpL (l1.drop k) (l2.drop k) = cmpI (l1.length : Int) (l2.length : Int) := by
 unfold cmpI
 by_cases e1 : k < l1.length
 ·rw [cmpL_gt e1 (by omega), if_neg (by omega), if_pos (by omega)]
 ·by_cases e2 : k < l2.length
  ·rw [cmpL_lt e2 (by omega), if_pos (by omega)]
  ·rw [cmpL_eq (by omega) (by omega), if_neg (by omega), if_neg (by omega)]
theorem cmpL_step {l1 l2 : List T} {k : Nat} (h1 : k < l1.length) (h2 : k < l2.length) : T.cmpL (l1.drop k) (l2.drop k) = if T.cmp l1[k] l2[k] = 0 then T.cmpL (l1.drop (k + 1)) (l2.drop (k + 1)) else T.cmp l1[k] l2[k] := by
 rw [List.drop_eq_getElem_cons h1, List.drop_eq_getElem_cons h2, T.cmpL]

def SLsInv (w : World) (l1 l2 : List T) (c : Int) (s : Value) (wr : World) : Prop := ∃ k : Nat, s = .int .i64 (k : Int) ∧ k ≤ l1.length ∧ k ≤ l2.length ∧ T.cmpL (l1.drop k) (l2.drop k) = c ∧ Below w.heap.size w wr

set_option maxRecDepth 100000 in
set_option maxHeartbeats 1000000 in
theorem specLists_calls (l1 l2 : List T) (hok : ∀ a ∈ l1, ∀ b ∈ l2, SpecCmpOK a b) (A1 A2 : Option Addr) (c1 c2 : Nat) (w : World) (hb1 : l1.length * 88 ≤ R47) (hb2 : l2.length * 88 ≤ R47) (h1 : TsAt w A1 l1) (h2 : TsAt w A2 l2) :
  Calls Tryz.prog 257 #[.slice A1 l1.length c1, .slice A2 l2.length c2] w (CmpPost (T.cmpL l1 l2) w) := by
 have hlb1 : l1.length ≤ 8796093022208 := by unfold R47 at hb1; omega
 have hlb2 : l2.length ≤ 8796093022208 := by unfold R47 at hb2; omega
 obtain ⟨c, hcv⟩ : ∃ c, T.cmpL l1 l2 = c := ⟨_, rfl⟩
 rw [hcv]
 have Hc := hide hcv
 have Hok := hide hok
 have H1 := hide h1
 have H2 := hide h2
 clear hcv hok h1 h2 hb1 hb2
 go_enter Tryz.func257, Tryz.ntmps257
 go_wp2
 go_loopw [5] (fun s wr => SLsInv w l1 l2 c s wr) (fun s _ => l1.length - (intOf s).toNat)
 case atStart => exact ⟨0, rfl, Nat.zero_le _, Nat.zero_le _, by simpa using Hc.out, Below.refl _ _⟩
 case round =>
  obtain ⟨k, rfl, hk1, hk2, hcmp, hb'⟩ := hrel
  have Hcmp := hide hcmp
  have Hb := hide hb'
  clear hcmp hb'
  by_cases h1 : k < l1.length
  ·by_cases h2 : k < l2.length
   ·have i1 : (k : Int) < (l1.length : Int) := by omega
    have i2 : (k : Int) < (l2.length : Int) := by omega
    have i0 : (0 : Int) ≤ (k : Int) := by omega
    have hst := cmpL_step h1 h2
    have hok := Hok.out l1[k] (List.getElem_mem h1) l2[k] (List.getElem_mem h2)
    obtain ⟨b, o, u0, u1, u2, u3, u4, u5, rfl, _, ht1, k0, k1, k2, k3, k4, k5⟩ := (H1.out.at_ Hb.out).elem h1
    obtain ⟨b', o', v0, v1, v2, v3, v4, v5, rfl, _, ht2, m0, m1, m2, m3, m4, m5⟩ := (H2.out.at_ Hb.out).elem h2
    generalize l1[k] = t1 at hst hok ht1
    generalize l2[k] = t2 at hst hok ht2
    have hcall := hok wr.drew _ _ (TAt.at_ ht1 (below_drew (Below.refl _ _))) (TAt.at_ ht2 (below_drew (Below.refl _ _)))
    obtain ⟨d, hd⟩ : ∃ d, T.cmp t1 t2 = d := ⟨_, rfl⟩
    rw [hd] at hst hcall
    have Hst := hide hst
    have Hcall := hide hcall
    clear hst hok ht1 ht2 hcall hd
    go_wp2_with fail
    go_still_tail 8, (by kernel_rfl)
    change wpList _ _ _ _ _ wr.drew
    go_wp2_with fail
    refine Hcall.out.mono ?_
    rintro e w1 ⟨rfl, hb1⟩
    have Hb1 := hide (Hb.out.trans ((below_drew' hb1).mono Hb.out.size))
    clear hb1 k0 k1 k2 k3 k4 k5 m0 m1 m2 m3 m4 m5
    by_cases hd0 : d = 0
    ·have hs := Hst.out
     rw [if_pos hd0] at hs
     have Hs := hide (hs.symm.trans Hcmp.out)
     clear hs Hst Hcall
     subst hd0
     go_wp2
     go_roundw
     case rel => exact ⟨k + 1, by go_num, h1, h2, Hs.out, Hb1.out⟩
     case measure => simp [intOf]; omega
    ·have hs := Hst.out
     rw [if_neg hd0, Hcmp.out] at hs
     have Hs := hide hs
     clear hs Hst Hcall
     go_wp2
     go_ret
     have hs := Hs.out
     subst hs
     exact ⟨rfl, Hb1.out⟩
   ·have i2 : ¬ (k : Int) < (l2.length : Int) := by omega
    go_wp2_with fail
    refine (specInts_calls _ _ _).mono ?_
    rintro e w' ⟨rfl, rfl⟩
    go_wp2
    go_ret
    have hcv := Hcmp.out
    rw [cmpL_end hk1 hk2 (.inr (by omega))] at hcv
    subst hcv
    exact ⟨rfl, Hb.out⟩
  ·go_wp2_with fail
   refine (specInts_calls _ _ _).mono ?_
   rintro e w' ⟨rfl, rfl⟩
   go_wp2
   go_ret
   have hcv := Hcmp.out
   rw [cmpL_end hk1 hk2 (.inl (by omega))] at hcv
   subst hcv
   exact ⟨rfl, Hb.out⟩

theorem TAt.map_ {w : World} {l : List (ByteArray × T)} {cs : List Value} (h : TAt w (.map l) cs) : ∃ KA kc LA lc, cs = [.int .i64 6, .int .i64 0, .float .f64 0, .string ByteArray.empty, .slice KA l.length kc, .slice LA l.length lc] ∧
  Row (Old w) w 1 KA l.length (l.map fun p => Value.string p.1) ∧ TsAt w LA (l.map Prod.snd) ∧ l.length * 88 ≤ R47 ∧ l.length * 16 ≤ R47 ∧ ∀ p ∈ l, p.1.size ≤ R47 := by
 unfold TAt T.toRV at h
 cases h with
 | @mk _ _ _ _ _ _ KA LA kc lc xs h1 h2 h3 h4 h5 h6 h7 h8 h9 h10 h11 hKrow hLrow hx =>
 rw [toRVM_eq] at *
 simp only [List.length_map, List.map_map] at *
 refine ⟨KA, kc, LA, lc, rfl, hKrow, ⟨xs, by simpa using hLrow, fun i t ht => ?_⟩, h7, h6, fun p hp => h5 _ (List.mem_map.2 ⟨p, hp, rfl⟩)⟩
 refine hx i t.toRV ?_
 rw [List.getElem?_map] at ht ⊢
 cases hg : l[i]? with
 | none => rw [hg] at ht; cases ht
 | some p => rw [hg] at ht; cases ht; rfl
theorem TAt.list_ {w : World} {l : List T} {cs : List Value} (h : TAt w (.list l) cs) : ∃ KA kc LA lc, cs = [.int .i64 5, .int .i64 0, .float .f64 0, .string ByteArray.empty, .slice KA 0 kc, .slice LA l.length lc] ∧ TsAt w LA l ∧ l.length * 88 ≤ R47 := by
 unfold TAt T.toRV at h
 cases h with
 | @mk _ _ _ _ _ _ KA LA kc lc xs h1 h2 h3 h4 h5 h6 h7 h8 h9 h10 h11 hKrow hLrow hx =>
 rw [toRVL_eq] at *
 simp only [List.length_map] at *
 refine ⟨KA, kc, LA, lc, rfl, ⟨xs, hLrow, fun i t ht => hx i t.toRV ?_⟩, h7⟩
 rw [List.getElem?_map, ht]
 rfl

theorem cmpM_end {l1 l2 : List (ByteArray × T)} {k : Nat} (h1 : k ≤ l1.length) (h2 : k ≤ l2.length) (h : l1.length ≤ k ∨ l2.length ≤ k) : T.cmpM (l1.drop k) (l2.drop k) = cmpI (l1.length : Int) (l2.length : Int) := by
 unfold cmpI
 by_cases e1 : k < l1.length
 ·rw [List.drop_eq_getElem_cons e1, List.drop_of_length_le (show l2.length ≤ k by omega), T.cmpM, if_neg (by omega), if_pos (by omega)]
 ·rw [List.drop_of_length_le (show l1.length ≤ k by omega)]
  by_cases e2 : k < l2.length
  ·rw [List.drop_eq_getElem_cons e2, T.cmpM, if_pos (by omega)]
  ·rw [List.drop_of_length_le (show l2.length ≤ k by omega), T.cmpM, if_neg (by omega), if_neg (by omega)]

def SMsInv (w : World) (a0 a1 a2 a3 a4 a5 b0 b1 b2 b3 b4 b5 : Value) (l1 l2 : List (ByteArray × T)) (c : Int) (s : Value) (wr : World) : Prop := ∃ k : Nat, s = .int .i64 (k : Int) ∧ k ≤ l1.length ∧ k ≤ l2.length ∧ T.cmpM (l1.drop k) (l2.drop k) = c ∧ W2 w a0 a1 a2 a3 a4 a5 b0 b1 b2 b3 b4 b5 wr
set_option maxRecDepth 100000 in
set_option maxHeartbeats 2000000 in
theorem specMaps_calls (l1 l2 : List (ByteArray × T)) (hok : ∀ k a, (k, a) ∈ l1 → ∀ j b, (j, b) ∈ l2 → SpecCmpOK a b) (w : World) (cs1 cs2 : List Value) (h1 : TAt w (.map l1) cs1) (h2 : TAt w (.map l2) cs2) :
  Calls Tryz.prog 258 #[.agg cs1.toArray, .agg cs2.toArray] w (CmpPost (T.cmpM l1 l2) w) := by
 obtain ⟨KA1, kc1, LA1, lc1, rfl, hr1, hx1, hb1, _, hs1⟩ := h1.map_
 obtain ⟨KA2, kc2, LA2, lc2, rfl, hr2, hx2, hb2, _, hs2⟩ := h2.map_
 have hlb1 : l1.length ≤ 8796093022208 := by unfold R47 at hb1; omega
 have hlb2 : l2.length ≤ 8796093022208 := by unfold R47 at hb2; omega
 obtain ⟨c, hcv⟩ : ∃ c, T.cmpM l1 l2 = c := ⟨_, rfl⟩
 rw [hcv]
 have Hc := hide hcv
 have Hok := hide hok
 have HR1 := hide (And.intro hr1 (And.intro hx1 hs1))
 have HR2 := hide (And.intro hr2 (And.intro hx2 hs2))
 clear hcv hok h1 h2 hb1 hb2 hr1 hr2 hx1 hx2 hs1 hs2
 go_enter Tryz.func258, Tryz.ntmps258
 go_wp2
 go_loopw [5] (fun s wr => SMsInv w (.int .i64 6) (.int .i64 0) (.float .f64 0) (.string ByteArray.empty) (.slice KA1 l1.length kc1) (.slice LA1 l1.length lc1) (.int .i64 6) (.int .i64 0) (.float .f64 0) (.string ByteArray.empty) (.slice KA2 l2.length kc2) (.slice LA2 l2.length lc2) l1 l2 c s wr) (fun s _ => l1.length - (intOf s).toNat)
 case atStart => exact ⟨0, rfl, Nat.zero_le _, Nat.zero_le _, by simpa using Hc.out, W2.made _ _ _ _ _ _ _ _ _ _ _ _ _ _⟩
 case round =>
  obtain ⟨k, rfl, hk1, hk2, hcmp, st⟩ := hrel
  have Hcmp := hide hcmp
  clear hcmp
  have p4 := st.a.k4
  have p5 := st.a.k5
  have q4 := st.b.k4
  have q5 := st.b.k5
  by_cases h1 : k < l1.length
  ·by_cases h2 : k < l2.length
   ·have i1 : (k : Int) < (l1.length : Int) := by omega
    have i2 : (k : Int) < (l2.length : Int) := by omega
    have i0 : (0 : Int) ≤ (k : Int) := by omega
    have hst := cmpM_step h1 h2
    have m1 : (l1[k].1, l1[k].2) ∈ l1 := List.getElem_mem h1
    have m2 : (l2[k].1, l2[k].2) ∈ l2 := List.getElem_mem h2
    have hok := Hok.out _ _ m1 _ _ m2
    have z1 := HR1.out.2.2 _ m1
    have z2 := HR2.out.2.2 _ m2
    obtain ⟨kb1, ko1, rfl, hF1, hk1c⟩ := row1_at (u := Value.string l1[k].1) HR1.out.1 h1 (by simp [h1])
    obtain ⟨kb2, ko2, rfl, hF2, hk2c⟩ := row1_at (u := Value.string l2[k].1) HR2.out.1 h2 (by simp [h2])
    rw [← (bcell st.below).1 _ _ hF1] at hk1c
    rw [← (bcell st.below).1 _ _ hF2] at hk2c
    have hel1 : ∀ W, Below w.heap.size w W → ∃ b o c0 c1 c2 c3 c4 c5, LA1 = some ⟨b, o, none⟩ ∧ b < W.heap.size ∧ TAt W l1[k].2 [c0, c1, c2, c3, c4, c5] ∧ W.cell? ⟨b, o + k * 6, none⟩ = some c0 ∧ W.cell? ⟨b, o + k * 6 + 1, none⟩ = some c1 ∧ W.cell? ⟨b, o + k * 6 + 2, none⟩ = some c2 ∧ W.cell? ⟨b, o + k * 6 + 3, none⟩ = some c3 ∧ W.cell? ⟨b, o + k * 6 + 4, none⟩ = some c4 ∧ W.cell? ⟨b, o + k * 6 + 5, none⟩ = some c5 := fun W hW => by
     have := (HR1.out.2.1.at_ hW).elem (k := k) (by simpa using h1)
     simpa using this
    have hel2 : ∀ W, Below w.heap.size w W → ∃ b o c0 c1 c2 c3 c4 c5, LA2 = some ⟨b, o, none⟩ ∧ b < W.heap.size ∧ TAt W l2[k].2 [c0, c1, c2, c3, c4, c5] ∧ W.cell? ⟨b, o + k * 6, none⟩ = some c0 ∧ W.cell? ⟨b, o + k * 6 + 1, none⟩ = some c1 ∧ W.cell? ⟨b, o + k * 6 + 2, none⟩ = some c2 ∧ W.cell? ⟨b, o + k * 6 + 3, none⟩ = some c3 ∧ W.cell? ⟨b, o + k * 6 + 4, none⟩ = some c4 ∧ W.cell? ⟨b, o + k * 6 + 5, none⟩ = some c5 := fun W hW => by
     have := (HR2.out.2.1.at_ hW).elem (k := k) (by simpa using h2)
     simpa using this
    generalize l1[k].1 = key1 at *
    generalize l2[k].1 = key2 at *
    generalize l1[k].2 = t1 at *
    generalize l2[k].2 = t2 at *
    have Hel1 := hide hel1
    have Hel2 := hide hel2
    have hkc := specStrings_calls key1 key2 z1 z2 wr.drew
    obtain ⟨d, hd⟩ : ∃ d, cmpS key1 key2 = d := ⟨_, rfl⟩
    obtain ⟨d2, hd2⟩ : ∃ d2, T.cmp t1 t2 = d2 := ⟨_, rfl⟩
    rw [hd, hd2] at hst
    rw [hd] at hkc
    have Hst := hide hst
    have Hkc := hide hkc
    have Hok2 := hide hok
    have Hd2 := hide hd2
    clear hst hok hkc hd hd2 m1 m2 hel1 hel2 z1 z2 hF1 hF2
    go_wp2_with fail
    go_still_tail 10, (by kernel_rfl)
    change wpList _ _ _ _ _ wr.drew
    go_wp2_with fail
    refine Hkc.out.mono ?_
    rintro e w1 ⟨rfl, hb1⟩
    have st1 := st.call (below_drew' hb1)
    clear hb1 p4 p5 q4 q5 hk1c hk2c st
    have p5 := st1.a.k5
    have q5 := st1.b.k5
    by_cases hd0 : d = 0
    ·have hs := Hst.out
     rw [if_pos hd0] at hs
     have Hs := hide (hs.symm.trans Hcmp.out)
     clear hs Hst Hkc
     subst hd0
     obtain ⟨b, o, u0, u1, u2, u3, u4, u5, rfl, _, ht1, k0, k1, k2, k3, k4, k5⟩ := Hel1.out w1 st1.below
     obtain ⟨b', o', v0, v1, v2, v3, v4, v5, rfl, _, ht2, m0, m1, m2, m3, m4, m5⟩ := Hel2.out w1 st1.below
     have hcall := Hok2.out w1.drew _ _ (TAt.at_ ht1 (below_drew (Below.refl _ _))) (TAt.at_ ht2 (below_drew (Below.refl _ _)))
     rw [Hd2.out] at hcall
     have Hcall := hide hcall
     clear ht1 ht2 hcall Hel1 Hel2
     go_wp2_with fail
     go_still_tail 10, (by kernel_rfl)
     change wpList _ _ _ _ _ w1.drew
     go_wp2_with fail
     refine Hcall.out.mono ?_
     rintro e w2 ⟨rfl, hb2⟩
     have st2 := st1.call (below_drew' hb2)
     clear hb2 k0 k1 k2 k3 k4 k5 m0 m1 m2 m3 m4 m5 p5 q5 st1
     by_cases hd20 : d2 = 0
     ·have hs := Hs.out
      rw [if_pos hd20] at hs
      have Hs2 := hide hs
      clear hs Hs Hcall
      subst hd20
      go_wp2
      go_roundw
      case rel => exact ⟨k + 1, by go_num, h1, h2, Hs2.out, st2⟩
      case measure => simp [intOf]; omega
     ·have hs := Hs.out
      rw [if_neg hd20] at hs
      have Hs2 := hide hs
      clear hs Hs Hcall
      go_wp2
      go_ret
      have hs := Hs2.out
      subst hs
      exact ⟨rfl, st2.below⟩
    ·have hs := Hst.out
     rw [if_neg hd0, Hcmp.out] at hs
     have Hs := hide hs
     clear hs Hst Hkc
     go_wp2
     go_ret
     have hs := Hs.out
     subst hs
     exact ⟨rfl, st1.below⟩
   ·have i2 : ¬ (k : Int) < (l2.length : Int) := by omega
    go_wp2_with fail
    refine (specInts_calls _ _ _).mono ?_
    rintro e w' ⟨rfl, rfl⟩
    go_wp2
    go_ret
    have hcv := Hcmp.out
    rw [cmpM_end hk1 hk2 (.inr (by omega))] at hcv
    subst hcv
    exact ⟨rfl, st.below⟩
  ·go_wp2_with fail
   refine (specInts_calls _ _ _).mono ?_
   rintro e w' ⟨rfl, rfl⟩
   go_wp2
   go_ret
   have hcv := Hcmp.out
   rw [cmpM_end hk1 hk2 (.inl (by omega))] at hcv
   subst hcv
   exact ⟨rfl, st.below⟩

end Go.Proofs.YtbicoknghdgahaaGreat
