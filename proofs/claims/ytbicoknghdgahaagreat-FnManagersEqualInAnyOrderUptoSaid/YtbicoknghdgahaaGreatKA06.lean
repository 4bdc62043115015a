/- Parts: CmpC. -/
import Derived.Test.YtbicoknghdgahaaGreatKA04
set_option linter.unusedVariables false
set_option linter.unusedSimpArgs false
namespace Go.Proofs.YtbicoknghdgahaaGreat
open Go.RowKit
attribute [local go_sem] run_store_float run_load_k meth_RangeUsing meth_Next meth_Item meth_emptyNext meth_Free

def CmpOK (a b : T) : Prop := ∀ (w : World) (pa : Addr) (v1 v2 : Value), ValAt (Old w) w a v1 → ValAt (Old w) w b v2 → Calls Tryz.prog 209 #[.iface 303 (.pointer (some pa)), v1, v2] w (CmpPost (T.cmp a b) w)

theorem cmpL_gt {l1 l2 : List T} {k : Nat} (h1 : k < l1.length) (h2 : l2.length ≤ k) : T.cmpL (l1.drop k) (l2.drop k) = 1 := by
 rw [List.drop_eq_getElem_cons h1, List.drop_of_length_le h2, T.cmpL]
theorem cmpL_lt {l1 l2 : List T} {k : Nat} (h2 : k < l2.length) (h1 : l1.length ≤ k) : T.cmpL (l1.drop k) (l2.drop k) = -1 := by
 rw [List.drop_eq_getElem_cons h2, List.drop_of_length_le h1, T.cmpL]
theorem cmpL_eq {l1 l2 : List T} {k : Nat} (h1 : l1.length ≤ k) (h2 : l2.length ≤ k) : T.cmpL (l1.drop k) (l2.drop k) = 0 := by
 rw [List.drop_of_length_le h1, List.drop_of_length_le h2, T.cmpL]

theorem next_k (g : Nat) (vv : Value) (A : Option Addr) (n c : Nat) (k : Nat) (w : World) (hk : k ≤ 9007199254740992) (hB : Bk w g 482 #[.slice A n c, vv, .int .i64 ((k : Int) - 1)]) :
  Calls Tryz.prog 360 #[.pointer (some ⟨g, 0, none⟩)] w fun e w' => e = .returned (.bool (decide (k < n))) ∧ ∃ m, (w.setCell ⟨g, 2, none⟩ (.int .i64 (k : Int))).drewN m = w' := by
 refine (next_calls g vv A n c ((k : Int) - 1) w (by omega) (by omega) hB).mono ?_
 rintro e w' ⟨rfl, m, rfl⟩
 have e1 : (k : Int) - 1 + 1 = k := by omega
 rw [e1]
 refine ⟨?_, m, rfl⟩
 congr 2
 exact decide_eq_decide.2 ⟨fun h => by omega, fun h => by omega⟩

structure LC (w : World) (s1 s2 : Value) (i1 i2 : Int) (wr : World) : Prop where
 below : Below w.heap.size w wr
 v1 : ∃ x, Bk wr w.heap.size 343 #[x]
 r1 : Bk wr (w.heap.size + 1) 482 #[s1, .pointer (some ⟨w.heap.size, 0, none⟩), .int .i64 i1]
 v2 : ∃ x, Bk wr (w.heap.size + 2) 343 #[x]
 r2 : Bk wr (w.heap.size + 3) 482 #[s2, .pointer (some ⟨w.heap.size + 2, 0, none⟩), .int .i64 i2]
theorem LC.drewN {w wr : World} {s1 s2 : Value} {i1 i2 : Int} (h : LC w s1 s2 i1 i2 wr) (m : Nat) : LC w s1 s2 i1 i2 (wr.drewN m) := ⟨⟨h.below.os, h.below.tape, h.below.output, h.below.size, h.below.block⟩, h.v1, h.r1, h.v2, h.r2⟩
theorem LC.next1 {w wr : World} {s1 s2 : Value} {i1 i2 : Int} (h : LC w s1 s2 i1 i2 wr) (j : Int) (m : Nat) : LC w s1 s2 j i2 ((wr.setCell ⟨w.heap.size + 1, 2, none⟩ (.int .i64 j)).drewN m) := by
 obtain ⟨x, hx⟩ := h.v1
 obtain ⟨y, hy⟩ := h.v2
 exact LC.drewN ⟨h.below.setCell (by simp) _, ⟨x, hx.far (by simp) _⟩, by simpa using h.r1.set_ 2 (.int .i64 j), ⟨y, hy.far (by simp) _⟩, h.r2.far (by simp) _⟩ m
theorem LC.next2 {w wr : World} {s1 s2 : Value} {i1 i2 : Int} (h : LC w s1 s2 i1 i2 wr) (j : Int) (m : Nat) : LC w s1 s2 i1 j ((wr.setCell ⟨w.heap.size + 3, 2, none⟩ (.int .i64 j)).drewN m) := by
 obtain ⟨x, hx⟩ := h.v1
 obtain ⟨y, hy⟩ := h.v2
 exact LC.drewN ⟨h.below.setCell (by simp) _, ⟨x, hx.far (by simp) _⟩, h.r1.far (by simp) _, ⟨y, hy.far (by simp) _⟩, by simpa using h.r2.set_ 2 (.int .i64 j)⟩ m
theorem LC.item1 {w wr : World} {s1 s2 : Value} {i1 i2 : Int} (h : LC w s1 s2 i1 i2 wr) (u : Value) (m1 m2 : Nat) : LC w s1 s2 i1 i2 (((wr.drewN m1).setCell ⟨w.heap.size, 0, none⟩ u).drewN m2) ∧ Bk (((wr.drewN m1).setCell ⟨w.heap.size, 0, none⟩ u).drewN m2) w.heap.size 343 #[u] := by
 have h := h.drewN m1
 obtain ⟨x, hx⟩ := h.v1
 obtain ⟨y, hy⟩ := h.v2
 have hu : Bk ((wr.drewN m1).setCell ⟨w.heap.size, 0, none⟩ u) w.heap.size 343 #[u] := by simpa using hx.set_ 0 u
 exact ⟨LC.drewN ⟨h.below.setCell (by simp) _, ⟨u, hu⟩, h.r1.far (by simp) _, ⟨y, hy.far (by simp) _⟩, h.r2.far (by simp) _⟩ m2, hu⟩
theorem LC.item2 {w wr : World} {s1 s2 : Value} {i1 i2 : Int} {u1 : Value} (h : LC w s1 s2 i1 i2 wr) (hu1 : Bk wr w.heap.size 343 #[u1]) (u : Value) (m1 m2 : Nat) :
  LC w s1 s2 i1 i2 (((wr.drewN m1).setCell ⟨w.heap.size + 2, 0, none⟩ u).drewN m2) ∧ Bk (((wr.drewN m1).setCell ⟨w.heap.size + 2, 0, none⟩ u).drewN m2) w.heap.size 343 #[u1] ∧ Bk (((wr.drewN m1).setCell ⟨w.heap.size + 2, 0, none⟩ u).drewN m2) (w.heap.size + 2) 343 #[u] := by
 have h := h.drewN m1
 obtain ⟨x, hx⟩ := h.v1
 obtain ⟨y, hy⟩ := h.v2
 have hu1 : Bk (wr.drewN m1) w.heap.size 343 #[u1] := hu1
 have hu : Bk ((wr.drewN m1).setCell ⟨w.heap.size + 2, 0, none⟩ u) (w.heap.size + 2) 343 #[u] := by simpa using hy.set_ 0 u
 have hv : Bk ((wr.drewN m1).setCell ⟨w.heap.size + 2, 0, none⟩ u) w.heap.size 343 #[u1] := hu1.far (by simp) _
 exact ⟨LC.drewN ⟨h.below.setCell (by simp) _, ⟨u1, hv⟩, h.r1.far (by simp) _, ⟨u, hu⟩, h.r2.far (by simp) _⟩ m2, hv, hu⟩
theorem LC.calls {w wr w' : World} {s1 s2 : Value} {i1 i2 : Int} (h : LC w s1 s2 i1 i2 wr) (hb : Below wr.heap.size wr w') : LC w s1 s2 i1 i2 w' := by
 obtain ⟨x, hx⟩ := h.v1
 obtain ⟨y, hy⟩ := h.v2
 exact ⟨h.below.trans (hb.mono h.below.size), ⟨x, hx.below hb hx.lt⟩, h.r1.below hb h.r1.lt, ⟨y, hy.below hb hy.lt⟩, h.r2.below hb h.r2.lt⟩

def LCInv (w : World) (s1 s2 : Value) (l1 l2 : List T) (c : Int) (wr : World) : Prop := ∃ k : Nat, k ≤ l1.length ∧ k ≤ l2.length ∧ T.cmpL (l1.drop k) (l2.drop k) = c ∧ LC w s1 s2 ((k : Int) - 1) ((k : Int) - 1) wr
def LCMes (w : World) (n : Nat) (wr : World) : Nat := n + 1 - (intOf ((wr.cell? ⟨w.heap.size + 1, 2, none⟩).getD undef) + 1).toNat

theorem LCMes_at {w wr : World} {s1 s2 : Value} {i1 i2 : Int} (h : LC w s1 s2 i1 i2 wr) (n : Nat) : LCMes w n wr = n + 1 - (i1 + 1).toNat := by
 unfold LCMes
 rw [h.r1.cell 2]
 rfl
theorem lc_start (w : World) (s1 s2 : Value) (l1 l2 : List T) : LCInv w s1 s2 l1 l2 (T.cmpL l1 l2)
  ((((w.alloc (.cells #[.nilIface] 343)).alloc (.cells #[s1, .pointer (some ⟨w.heap.size, 0, none⟩), .int .i64 (-1)] 482)).alloc (.cells #[.nilIface] 343)).alloc (.cells #[s2, .pointer (some ⟨w.heap.size + 2, 0, none⟩), .int .i64 (-1)] 482)) := by
 refine ⟨0, Nat.zero_le _, Nat.zero_le _, by simp, ((((Below.refl _ _).alloc (Nat.le_refl _) _).alloc (by simp) _).alloc (by simp; omega) _).alloc (by simp; omega) _, ⟨.nilIface, (((Bk.new w _ _).alloc _).alloc _).alloc _⟩, ?_, ⟨.nilIface, ?_⟩, ?_⟩
 ·have := (((Bk.new (w.alloc (.cells #[.nilIface] 343)) 482 #[s1, .pointer (some ⟨w.heap.size, 0, none⟩), .int .i64 (-1)]).alloc (.cells #[.nilIface] 343)).alloc (.cells #[s2, .pointer (some ⟨w.heap.size + 2, 0, none⟩), .int .i64 (-1)] 482))
  simpa using this
 ·have := ((Bk.new ((w.alloc (.cells #[.nilIface] 343)).alloc (.cells #[s1, .pointer (some ⟨w.heap.size, 0, none⟩), .int .i64 (-1)] 482)) 343 #[.nilIface]).alloc (.cells #[s2, .pointer (some ⟨w.heap.size + 2, 0, none⟩), .int .i64 (-1)] 482))
  simpa using this
 ·have := Bk.new (((w.alloc (.cells #[.nilIface] 343)).alloc (.cells #[s1, .pointer (some ⟨w.heap.size, 0, none⟩), .int .i64 (-1)] 482)).alloc (.cells #[.nilIface] 343)) 482 #[s2, .pointer (some ⟨w.heap.size + 2, 0, none⟩), .int .i64 (-1)]
  simpa using this

set_option maxRecDepth 100000 in
set_option maxHeartbeats 2000000 in
theorem listCompare_both (l1 l2 : List T) (hok : ∀ a ∈ l1, ∀ b ∈ l2, CmpOK a b) (A1 A2 : Option Addr) (c1 c2 : Nat) (xs1 xs2 : List Value) (pa : Addr) (w : World) (hn1 : 0 < l1.length) (hn2 : 0 < l2.length) (hb1 : l1.length * 88 ≤ R47) (hb2 : l2.length * 88 ≤ R47)
  (hr1 : Row (Old w) w 1 A1 l1.length xs1) (hr2 : Row (Old w) w 1 A2 l2.length xs2) (hx1 : AnysAt (Old w) w l1 xs1) (hx2 : AnysAt (Old w) w l2 xs2) :
  Calls Tryz.prog 235 #[.iface 303 (.pointer (some pa)), .iface 452 (.slice A1 l1.length c1), .iface 452 (.slice A2 l2.length c2)] w (CmpPost (T.cmpL l1 l2) w) := by
 have hlb1 : l1.length ≤ 8796093022208 := by unfold R47 at hb1; omega
 have hlb2 : l2.length ≤ 8796093022208 := by unfold R47 at hb2; omega
 obtain ⟨c, hcv⟩ : ∃ c, T.cmpL l1 l2 = c := ⟨_, rfl⟩
 rw [hcv]
 have Hc := hide hcv
 have Hok := hide hok
 have HR1 := hide hr1
 have HR2 := hide hr2
 have HX1 := hide hx1
 have HX2 := hide hx2
 clear hcv hok hr1 hr2 hx1 hx2 hb1 hb2
 go_enter_defers Tryz.func235, Tryz.ntmps235
 go_wp2_with fail
 refine (rangeUsing_calls _ _ _ hn1 _ _).mono ?_
 rintro e w1 ⟨rfl, rfl⟩
 go_wp2_with fail
 refine (rangeUsing_calls _ _ _ hn2 _ _).mono ?_
 rintro e w2 ⟨rfl, rfl⟩
 go_wp2_with fail
 go_loopw [9] (fun _ wr => LCInv w (.slice A1 l1.length c1) (.slice A2 l2.length c2) l1 l2 c wr) (fun _ wr => LCMes w l1.length wr)
 case atStart =>
  have := lc_start w (.slice A1 l1.length c1) (.slice A2 l2.length c2) l1 l2
  rw [Hc.out] at this
  exact this
 case round =>
  obtain ⟨k, hk1, hk2, hcmp, st⟩ := hrel
  have Hcmp := hide hcmp
  have Hst := hide st
  clear hcmp st
  go_wp2_with fail
  refine (next_k _ _ _ _ _ k _ (by omega) Hst.out.r1).mono ?_
  rintro e W1 ⟨rfl, m1, hW1⟩
  have Hst1 := hide (Hst.out.next1 (k : Int) m1)
  rw [hW1] at Hst1
  clear hW1
  go_wp2_with fail
  refine (next_k _ _ _ _ _ k _ (by omega) Hst1.out.r2).mono ?_
  rintro e W2 ⟨rfl, m2, hW2⟩
  have Hst2 := hide (Hst1.out.next2 (k : Int) m2)
  rw [hW2] at Hst2
  clear hW2
  by_cases h1 : k < l1.length <;> by_cases h2 : k < l2.length
  ·obtain ⟨u1, hu1⟩ : ∃ u, xs1[k]? = some u := ⟨_, List.getElem?_eq_getElem (by have := HR1.out.1; omega)⟩
   obtain ⟨u2, hu2⟩ : ∃ u, xs2[k]? = some u := ⟨_, List.getElem?_eq_getElem (by have := HR2.out.1; omega)⟩
   have ha1 := HX1.out k l1[k] u1 (List.getElem?_eq_getElem h1) hu1
   have ha2 := HX2.out k l2[k] u2 (List.getElem?_eq_getElem h2) hu2
   obtain ⟨b1, o1, rfl, hF1, hc1⟩ := row1_at HR1.out h1 hu1
   obtain ⟨b2, o2, rfl, hF2, hc2⟩ := row1_at HR2.out h2 hu2
   have hok := Hok.out l1[k] (List.getElem_mem h1) l2[k] (List.getElem_mem h2)
   have hcs : T.cmpL (l1.drop k) (l2.drop k) = if T.cmp l1[k] l2[k] = 0 then T.cmpL (l1.drop (k + 1)) (l2.drop (k + 1)) else T.cmp l1[k] l2[k] := by
    rw [List.drop_eq_getElem_cons h1, List.drop_eq_getElem_cons h2, T.cmpL]
   generalize l1[k] = t1 at ha1 hok hcs
   generalize l2[k] = t2 at ha2 hok hcs
   have Hh := hide (And.intro (And.intro ha1 ha2) (And.intro hok hcs))
   have Hcell := hide (And.intro hc1 hc2)
   clear ha1 ha2 hok hcs hu1 hu2 hc1 hc2
   obtain ⟨x1, hx1⟩ := Hst2.out.v1
   have Hx1 := hide hx1
   clear hx1
   go_wp2_with fail
   refine (item_calls (w.heap.size + 1) w.heap.size x1 b1 o1 _ _ k h1 (by omega) Hh.out.1.1 W2 Hst2.out.r1 Hx1.out (((bcell Hst2.out.below).1 _ _ hF1).trans Hcell.out.1) (by omega) (Nat.ne_of_lt hF1)).mono ?_
   rintro e W3 ⟨rfl, n1, n2, hW3⟩
   have Hst3 := hide (Hst2.out.item1 u1 n1 n2)
   rw [hW3] at Hst3
   clear hW3
   obtain ⟨x2, hx2⟩ := Hst3.out.1.v2
   have Hx2 := hide hx2
   clear hx2
   go_wp2_with fail
   refine (item_calls (w.heap.size + 3) (w.heap.size + 2) x2 b2 o2 _ _ k h2 (by omega) Hh.out.1.2 W3 Hst3.out.1.r2 Hx2.out (((bcell Hst3.out.1.below).1 _ _ hF2).trans Hcell.out.2) (by omega) (by have : b2 < w.heap.size := hF2; omega)).mono ?_
   rintro e W4 ⟨rfl, n3, n4, hW4⟩
   have Hst4 := hide (Hst3.out.1.item2 Hst3.out.2 u2 n3 n4)
   rw [hW4] at Hst4
   clear hW4
   go_wp2_with fail
   obtain ⟨d, hd⟩ : ∃ d, T.cmp t1 t2 = d := ⟨_, rfl⟩
   have hcall := Hh.out.2.1 W4 pa (.iface 302 (.pointer (some ⟨w.heap.size, 0, none⟩))) (.iface 302 (.pointer (some ⟨w.heap.size + 2, 0, none⟩)))
    ⟨w.heap.size, u1, rfl, Hst4.out.2.1.lt, Hst4.out.2.1, (Hh.out.1.1.keeps (Keeps.below Hst4.out.1.below fun _ hx => hx)).mono fun _ hx => Nat.lt_of_lt_of_le hx Hst4.out.1.below.size⟩
    ⟨w.heap.size + 2, u2, rfl, Hst4.out.2.2.lt, Hst4.out.2.2, (Hh.out.1.2.keeps (Keeps.below Hst4.out.1.below fun _ hx => hx)).mono fun _ hx => Nat.lt_of_lt_of_le hx Hst4.out.1.below.size⟩
   rw [hd] at hcall
   refine hcall.mono ?_
   have Hd := hide hd
   clear hcall hd
   rintro e W5 ⟨rfl, hb5⟩
   have Hst5 := hide (Hst4.out.1.calls hb5)
   clear hb5
   by_cases hd0 : d = 0
   ·subst hd0
    go_wp2_with fail
    have hcv := Hcmp.out
    rw [Hh.out.2.2, Hd.out, if_pos rfl] at hcv
    have e : (((k + 1 : Nat) : Int) - 1) = (k : Int) := by omega
    refine ⟨⟨k + 1, h1, h2, hcv, by rw [e]; exact Hst5.out⟩, ?_⟩
    rw [LCMes_at Hst5.out, LCMes_at Hst.out]
    omega
   ·go_wp2_with fail
    refine leaves_cons (f := 323) (args := #[.pointer (some pa), .iface 476 (.pointer (some ⟨w.heap.size + 1 + 1 + 1, 0, none⟩))]) (by simp) (by simp [go_sem, meth_Free]) ?_
    refine (free_deferred pa _ .returning _).mono ?_
    rintro e u' w' ⟨rfl, rfl, rfl⟩
    refine leaves_cons (f := 323) (args := #[.pointer (some pa), .iface 476 (.pointer (some ⟨w.heap.size + 1, 0, none⟩))]) (by simp [settle]) (by simp [go_sem, meth_Free]) ?_
    refine (free_deferred pa _ .returning _).mono ?_
    rintro e u' w' ⟨rfl, rfl, rfl⟩
    have hcv := Hcmp.out
    rw [Hh.out.2.2, Hd.out, if_neg hd0] at hcv
    subst hcv
    exact ⟨_, results_tmp rfl _ _ _, rfl, Hst5.out.below⟩
  ·go_wp2_with fail
   refine leaves_cons (f := 323) (args := #[.pointer (some pa), .iface 476 (.pointer (some ⟨w.heap.size + 1 + 1 + 1, 0, none⟩))]) (by simp) (by simp [go_sem, meth_Free]) ?_
   refine (free_deferred pa _ .returning _).mono ?_
   rintro e u' w' ⟨rfl, rfl, rfl⟩
   refine leaves_cons (f := 323) (args := #[.pointer (some pa), .iface 476 (.pointer (some ⟨w.heap.size + 1, 0, none⟩))]) (by simp [settle]) (by simp [go_sem, meth_Free]) ?_
   refine (free_deferred pa _ .returning _).mono ?_
   rintro e u' w' ⟨rfl, rfl, rfl⟩
   have hcv := Hcmp.out
   rw [cmpL_gt h1 (by omega)] at hcv
   subst hcv
   exact ⟨_, results_tmp rfl _ _ _, rfl, Hst2.out.below⟩
  ·go_wp2_with fail
   refine leaves_cons (f := 323) (args := #[.pointer (some pa), .iface 476 (.pointer (some ⟨w.heap.size + 1 + 1 + 1, 0, none⟩))]) (by simp) (by simp [go_sem, meth_Free]) ?_
   refine (free_deferred pa _ .returning _).mono ?_
   rintro e u' w' ⟨rfl, rfl, rfl⟩
   refine leaves_cons (f := 323) (args := #[.pointer (some pa), .iface 476 (.pointer (some ⟨w.heap.size + 1, 0, none⟩))]) (by simp [settle]) (by simp [go_sem, meth_Free]) ?_
   refine (free_deferred pa _ .returning _).mono ?_
   rintro e u' w' ⟨rfl, rfl, rfl⟩
   have hcv := Hcmp.out
   rw [cmpL_lt h2 (by omega)] at hcv
   subst hcv
   exact ⟨_, results_tmp rfl _ _ _, rfl, Hst2.out.below⟩
  ·go_wp2_with fail
   refine leaves_cons (f := 323) (args := #[.pointer (some pa), .iface 476 (.pointer (some ⟨w.heap.size + 1 + 1 + 1, 0, none⟩))]) (by simp) (by simp [go_sem, meth_Free]) ?_
   refine (free_deferred pa _ .returning _).mono ?_
   rintro e u' w' ⟨rfl, rfl, rfl⟩
   refine leaves_cons (f := 323) (args := #[.pointer (some pa), .iface 476 (.pointer (some ⟨w.heap.size + 1, 0, none⟩))]) (by simp [settle]) (by simp [go_sem, meth_Free]) ?_
   refine (free_deferred pa _ .returning _).mono ?_
   rintro e u' w' ⟨rfl, rfl, rfl⟩
   have hcv := Hcmp.out
   rw [cmpL_eq (by omega) (by omega)] at hcv
   subst hcv
   exact ⟨_, results_tmp rfl _ _ _, rfl, Hst2.out.below⟩

theorem below_drewN {B : Nat} {w W : World} (h : Below B w W) (m : Nat) : Below B w (W.drewN m) := ⟨h.os, h.tape, h.output, h.size, h.block⟩

set_option maxRecDepth 100000 in
set_option maxHeartbeats 1000000 in
theorem listCompare_none (A1 A2 : Option Addr) (c1 c2 : Nat) (pa : Addr) (w : World) :
  Calls Tryz.prog 235 #[.iface 303 (.pointer (some pa)), .iface 452 (.slice A1 0 c1), .iface 452 (.slice A2 0 c2)] w (CmpPost (0) w) := by
 go_enter_defers Tryz.func235, Tryz.ntmps235
 go_wp2_with fail
 refine (rangeUsing_empty _ _ _ _).mono ?_
 rintro e w1 ⟨rfl, rfl⟩
 go_wp2_with fail
 refine (rangeUsing_empty _ _ _ _).mono ?_
 rintro e w2 ⟨rfl, rfl⟩
 go_wp2_with fail
 generalize hW : World.alloc _ _ = W
 have hbw : Below w.heap.size w W := by rw [← hW]; exact ((Below.refl _ _).alloc (Nat.le_refl _) _).alloc (by simp) _
 have HW := hide hW
 have Hbw := hide hbw
 clear hW hbw
 go_loopw [9] (fun _ wr => W = wr) (fun _ _ => 0)
 case atStart => rfl
 case round =>
  subst hrel
  go_wp2_with fail
  refine (emptyNext_calls _ _).mono ?_
  rintro e W1 ⟨rfl, rfl⟩
  go_wp2_with fail
  refine (emptyNext_calls _ _).mono ?_
  rintro e W2 ⟨rfl, rfl⟩
  go_wp2_with fail
  refine leaves_cons (f := 323) (args := #[.pointer (some pa), .iface 479 (.pointer (some ⟨w.heap.size + 1, 0, none⟩))]) (by simp) (by simp [go_sem, meth_Free]) ?_
  refine (free_deferred pa _ .returning _).mono ?_
  rintro e u' w' ⟨rfl, rfl, rfl⟩
  refine leaves_cons (f := 323) (args := #[.pointer (some pa), .iface 479 (.pointer (some ⟨w.heap.size, 0, none⟩))]) (by simp [settle]) (by simp [go_sem, meth_Free]) ?_
  refine (free_deferred pa _ .returning _).mono ?_
  rintro e u' w' ⟨rfl, rfl, rfl⟩
  exact ⟨_, results_tmp rfl _ _ _, rfl, Hbw.out⟩

set_option maxRecDepth 100000 in
set_option maxHeartbeats 1000000 in
theorem listCompare_left (n : Nat) (A1 A2 : Option Addr) (c1 c2 : Nat) (pa : Addr) (w : World) (hn : 0 < n) (hn2 : n ≤ 8796093022208) :
  Calls Tryz.prog 235 #[.iface 303 (.pointer (some pa)), .iface 452 (.slice A1 0 c1), .iface 452 (.slice A2 n c2)] w (CmpPost (-1) w) := by
 go_enter_defers Tryz.func235, Tryz.ntmps235
 go_wp2_with fail
 refine (rangeUsing_empty _ _ _ _).mono ?_
 rintro e w1 ⟨rfl, rfl⟩
 go_wp2_with fail
 refine (rangeUsing_calls _ _ _ hn _ _).mono ?_
 rintro e w2 ⟨rfl, rfl⟩
 go_wp2_with fail
 generalize hW : World.alloc _ _ = W
 have hbw : Below w.heap.size w W := by rw [← hW]; exact (((Below.refl _ _).alloc (Nat.le_refl _) _).alloc (by simp) _).alloc (by simp; omega) _
 have hB : Bk W (w.heap.size + 2) 482 #[.slice A2 n c2, .pointer (some ⟨w.heap.size + 1, 0, none⟩), .int .i64 (((0 : Nat) : Int) - 1)] := by
  rw [← hW]
  have := Bk.new ((w.alloc (.cells #[] 480)).alloc (.cells #[.nilIface] 343)) 482 #[.slice A2 n c2, .pointer (some ⟨w.heap.size + 1, 0, none⟩), .int .i64 (-1)]
  simpa using this
 have HB := hide hB
 clear hB
 have HW := hide hW
 have Hbw := hide hbw
 clear hW hbw
 go_loopw [9] (fun _ wr => W = wr) (fun _ _ => 0)
 case atStart => rfl
 case round =>
  subst hrel
  go_wp2_with fail
  refine (emptyNext_calls _ _).mono ?_
  rintro e W1 ⟨rfl, rfl⟩
  go_wp2_with fail
  refine (next_k _ _ _ _ _ 0 _ (by omega) HB.out).mono ?_
  rintro e W2 ⟨rfl, m, rfl⟩
  have hdn : decide (0 < n) = true := by simpa using hn
  rw [hdn]
  go_wp2_with fail
  refine leaves_cons (f := 323) (args := #[.pointer (some pa), .iface 476 (.pointer (some ⟨w.heap.size + 1 + 1, 0, none⟩))]) (by simp) (by simp [go_sem, meth_Free]) ?_
  refine (free_deferred pa _ .returning _).mono ?_
  rintro e u' w' ⟨rfl, rfl, rfl⟩
  refine leaves_cons (f := 323) (args := #[.pointer (some pa), .iface 479 (.pointer (some ⟨w.heap.size, 0, none⟩))]) (by simp [settle]) (by simp [go_sem, meth_Free]) ?_
  refine (free_deferred pa _ .returning _).mono ?_
  rintro e u' w' ⟨rfl, rfl, rfl⟩
  exact ⟨_, results_tmp rfl _ _ _, rfl, below_drewN (Hbw.out.setCell (by first | (simp; done) | (simp; omega)) _) _⟩

set_option maxRecDepth 100000 in
set_option maxHeartbeats 1000000 in
theorem listCompare_right (n : Nat) (A1 A2 : Option Addr) (c1 c2 : Nat) (pa : Addr) (w : World) (hn : 0 < n) (hn2 : n ≤ 8796093022208) :
  Calls Tryz.prog 235 #[.iface 303 (.pointer (some pa)), .iface 452 (.slice A1 n c1), .iface 452 (.slice A2 0 c2)] w (CmpPost (1) w) := by
 go_enter_defers Tryz.func235, Tryz.ntmps235
 go_wp2_with fail
 refine (rangeUsing_calls _ _ _ hn _ _).mono ?_
 rintro e w1 ⟨rfl, rfl⟩
 go_wp2_with fail
 refine (rangeUsing_empty _ _ _ _).mono ?_
 rintro e w2 ⟨rfl, rfl⟩
 go_wp2_with fail
 generalize hW : World.alloc _ _ = W
 have hbw : Below w.heap.size w W := by rw [← hW]; exact (((Below.refl _ _).alloc (Nat.le_refl _) _).alloc (by simp) _).alloc (by simp; omega) _
 have hB : Bk W (w.heap.size + 1) 482 #[.slice A1 n c1, .pointer (some ⟨w.heap.size, 0, none⟩), .int .i64 (((0 : Nat) : Int) - 1)] := by
  rw [← hW]
  have := (Bk.new (w.alloc (.cells #[.nilIface] 343)) 482 #[.slice A1 n c1, .pointer (some ⟨w.heap.size, 0, none⟩), .int .i64 (-1)]).alloc (.cells #[] 480)
  simpa using this
 have HB := hide hB
 clear hB
 have HW := hide hW
 have Hbw := hide hbw
 clear hW hbw
 go_loopw [9] (fun _ wr => W = wr) (fun _ _ => 0)
 case atStart => rfl
 case round =>
  subst hrel
  go_wp2_with fail
  refine (next_k _ _ _ _ _ 0 _ (by omega) HB.out).mono ?_
  rintro e W1 ⟨rfl, m, rfl⟩
  have hdn : decide (0 < n) = true := by simpa using hn
  rw [hdn]
  go_wp2_with fail
  refine (emptyNext_calls _ _).mono ?_
  rintro e W2 ⟨rfl, rfl⟩
  go_wp2_with fail
  refine leaves_cons (f := 323) (args := #[.pointer (some pa), .iface 479 (.pointer (some ⟨w.heap.size + 1 + 1, 0, none⟩))]) (by simp) (by simp [go_sem, meth_Free]) ?_
  refine (free_deferred pa _ .returning _).mono ?_
  rintro e u' w' ⟨rfl, rfl, rfl⟩
  refine leaves_cons (f := 323) (args := #[.pointer (some pa), .iface 476 (.pointer (some ⟨w.heap.size + 1, 0, none⟩))]) (by simp [settle]) (by simp [go_sem, meth_Free]) ?_
  refine (free_deferred pa _ .returning _).mono ?_
  rintro e u' w' ⟨rfl, rfl, rfl⟩
  exact ⟨_, results_tmp rfl _ _ _, rfl, below_drewN (Hbw.out.setCell (by simp) _) _⟩

theorem listCompare_calls (l1 l2 : List T) (hok : ∀ a ∈ l1, ∀ b ∈ l2, CmpOK a b) (A1 A2 : Option Addr) (c1 c2 : Nat) (xs1 xs2 : List Value) (pa : Addr) (w : World) (hb1 : l1.length * 88 ≤ R47) (hb2 : l2.length * 88 ≤ R47)
  (hr1 : Row (Old w) w 1 A1 l1.length xs1) (hr2 : Row (Old w) w 1 A2 l2.length xs2) (hx1 : AnysAt (Old w) w l1 xs1) (hx2 : AnysAt (Old w) w l2 xs2) :
  Calls Tryz.prog 235 #[.iface 303 (.pointer (some pa)), .iface 452 (.slice A1 l1.length c1), .iface 452 (.slice A2 l2.length c2)] w (CmpPost (T.cmpL l1 l2) w) := by
 have hlb1 : l1.length ≤ 8796093022208 := by unfold R47 at hb1; omega
 have hlb2 : l2.length ≤ 8796093022208 := by unfold R47 at hb2; omega
 cases l1 with
 | nil =>
  cases l2 with
  | nil => rw [T.cmpL]; exact listCompare_none A1 A2 c1 c2 pa w
  | cons b l2 => rw [T.cmpL]; exact listCompare_left _ A1 A2 c1 c2 pa w (by simp) hlb2
 | cons a l1 =>
  cases l2 with
  | nil => rw [T.cmpL]; exact listCompare_right _ A1 A2 c1 c2 pa w (by simp) hlb1
  | cons b l2 => exact listCompare_both _ _ hok A1 A2 c1 c2 xs1 xs2 pa w (by simp) (by simp) hb1 hb2 hr1 hr2 hx1 hx2

end Go.Proofs.YtbicoknghdgahaaGreat

namespace Go.Proofs.YtbicoknghdgahaaGreat
open Go.RowKit
attribute [local go_sem] run_store_float run_load_k meth_IsNull meth_IsFloat meth_IsInt meth_IsString meth_IsBool meth_IsList meth_IsMap meth_AsListUsing meth_Free

attribute [local go_sem] T.isNull T.isFlt T.isInt T.isStr T.isBool T.isList T.isMap

set_option maxRecDepth 100000 in
set_option maxHeartbeats 4000000 in
theorem compareLL (l1 l2 : List T) (hok : ∀ a ∈ l1, ∀ b ∈ l2, CmpOK a b) : CmpOK (.list l1) (.list l2) := by
 intro w pa v1 v2 h1 h2
 obtain ⟨p, u, rfl, hpl, hB, hu⟩ := h1
 obtain ⟨q, v, rfl, hql, hC, hv⟩ := h2
 have hc := hB.cell 0
 have hd := hC.cell 0
 simp at hc hd
 clear hB hC
 simp only [Old] at hpl hql
 have hst : St2 w p q u v w := ⟨hc, hd, Below.refl _ _⟩
 rw [T.cmp]
 obtain ⟨c, hcv⟩ : ∃ c, T.cmpL l1 l2 = c := ⟨_, rfl⟩
 rw [hcv]
 have Hc := hide hcv
 clear hcv
 have Hok := hide hok
 have Hu := hide hu
 have Hv := hide hv
 clear hok
 cases hu with
 | @list _ A1 c1 xs1 a1 a2 a3 a4 a5 =>
 cases hv with
 | @list _ A2 c2 xs2 b1 b2 b3 b4 b5 =>
 have Ha := hide (And.intro a1 (And.intro a4 a5))
 have Hb := hide (And.intro b1 (And.intro b4 b5))
 clear a1 a2 a3 a4 a5 b1 b2 b3 b4 b5
 go_enter_defers Tryz.func209, Tryz.ntmps209
 go_wp2_with fail
 refine (St2.call hst hpl hql (IsFloat_calls Hu.out _)).mono ?_
 rintro e w1 ⟨rfl, hst⟩
 have hc := hst.1
 have hd := hst.2.1
 go_wp2_with fail
 refine (St2.call hst hpl hql (IsFloat_calls Hv.out _)).mono ?_
 rintro e w1 ⟨rfl, hst⟩
 have hc := hst.1
 have hd := hst.2.1
 go_wp2_with fail
 refine (St2.call hst hpl hql (IsInt_calls Hu.out _)).mono ?_
 rintro e w1 ⟨rfl, hst⟩
 have hc := hst.1
 have hd := hst.2.1
 go_wp2_with fail
 refine (St2.call hst hpl hql (IsInt_calls Hv.out _)).mono ?_
 rintro e w1 ⟨rfl, hst⟩
 have hc := hst.1
 have hd := hst.2.1
 go_wp2_with fail
 refine (St2.call hst hpl hql (IsString_calls Hu.out _)).mono ?_
 rintro e w1 ⟨rfl, hst⟩
 have hc := hst.1
 have hd := hst.2.1
 go_wp2_with fail
 refine (St2.call hst hpl hql (IsString_calls Hv.out _)).mono ?_
 rintro e w1 ⟨rfl, hst⟩
 have hc := hst.1
 have hd := hst.2.1
 go_wp2_with fail
 refine (St2.call hst hpl hql (IsBool_calls Hu.out _)).mono ?_
 rintro e w1 ⟨rfl, hst⟩
 have hc := hst.1
 have hd := hst.2.1
 go_wp2_with fail
 refine (St2.call hst hpl hql (IsBool_calls Hv.out _)).mono ?_
 rintro e w1 ⟨rfl, hst⟩
 have hc := hst.1
 have hd := hst.2.1
 go_wp2_with fail
 refine (St2.call hst hpl hql (IsList_calls Hu.out _)).mono ?_
 rintro e w1 ⟨rfl, hst⟩
 have hc := hst.1
 have hd := hst.2.1
 go_wp2_with fail
 refine (St2.call hst hpl hql (IsList_calls Hv.out _)).mono ?_
 rintro e w1 ⟨rfl, hst⟩
 have hc := hst.1
 have hd := hst.2.1
 go_wp2_with fail
 refine (St2.call hst hpl hql (AsListUsing_calls _ _ _ _ _)).mono ?_
 rintro e w1 ⟨rfl, hst⟩
 have hc := hst.1
 have hd := hst.2.1
 go_wp2_with fail
 refine (St2.call hst hpl hql (AsListUsing_calls _ _ _ _ _)).mono ?_
 rintro e w1 ⟨rfl, hst⟩
 have hc := hst.1
 have hd := hst.2.1
 have Hb1 := hide hst.2.2
 go_wp2_with fail
 have hk : Keeps (Old w) w w1 := Keeps.below Hb1.out fun _ hx => hx
 have hm : ∀ b, Old w b → Old w1 b := fun _ hx => Nat.lt_of_lt_of_le hx Hb1.out.size
 have hfin := listCompare_calls l1 l2 Hok.out A1 A2 c1 c2 xs1 xs2 pa w1 Ha.out.1 Hb.out.1 ((Ha.out.2.1.keeps hk).mono hm) ((Hb.out.2.1.keeps hk).mono hm)
  (fun i t u ht hu => ((Ha.out.2.2 i t u ht hu).keeps hk).mono hm) (fun i t u ht hu => ((Hb.out.2.2 i t u ht hu).keeps hk).mono hm)
 rw [Hc.out] at hfin
 refine hfin.mono ?_
 clear hfin hk hm
 rintro e w2 ⟨rfl, hb2⟩
 have Hb2 := hide (Hb1.out.trans (hb2.mono Hb1.out.size))
 clear hb2
 go_wp2_with fail
 refine leaves_cons (f := 323) (args := #[.pointer (some pa), .iface 452 (.slice A2 l2.length c2)]) (by simp) (by simp [go_sem, meth_Free]) ?_
 refine (free_deferred pa _ .returning _).mono ?_
 rintro e u' w' ⟨rfl, rfl, rfl⟩
 refine leaves_cons (f := 323) (args := #[.pointer (some pa), .iface 452 (.slice A1 l1.length c1)]) (by simp [settle]) (by simp [go_sem, meth_Free]) ?_
 refine (free_deferred pa _ .returning _).mono ?_
 rintro e u' w' ⟨rfl, rfl, rfl⟩
 exact ⟨_, results_tmp rfl _ _ _, rfl, Hb2.out⟩

end Go.Proofs.YtbicoknghdgahaaGreat
