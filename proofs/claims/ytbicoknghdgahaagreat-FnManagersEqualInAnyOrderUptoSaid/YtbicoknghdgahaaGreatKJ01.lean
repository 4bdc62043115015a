/- Parts: Order, Cz, ListEq, EqA. -/
import Derived.Test.YtbicoknghdgahaaGreatKB04
set_option linter.unusedVariables false
set_option linter.unusedSimpArgs false
set_option exponentiation.threshold 4000
namespace Go.Proofs.YtbicoknghdgahaaGreat



end Go.Proofs.YtbicoknghdgahaaGreat

namespace Go.Proofs.YtbicoknghdgahaaGreat

end Go.Proofs.YtbicoknghdgahaaGreat

namespace Go.Proofs.YtbicoknghdgahaaGreat





end Go.Proofs.YtbicoknghdgahaaGreat

namespace Go.Proofs.YtbicoknghdgahaaGreat

end Go.Proofs.YtbicoknghdgahaaGreat

namespace Go.Proofs.YtbicoknghdgahaaGreat

end Go.Proofs.YtbicoknghdgahaaGreat

namespace Go.Proofs.YtbicoknghdgahaaGreat

def eqK (l1 l2 : List (ByteArray × T)) (k : ByteArray) : Bool := match getT l1 k, getT l2 k with
 | some a, some b => T.eqv a b
 | _, _ => false

theorem eqvM_keys {l1 l2 : List (ByteArray × T)} (h : T.eqvM l1 l2 = true) : l1.map Prod.fst = l2.map Prod.fst := by
 induction l1 generalizing l2 with
 | nil => cases l2 with
  | nil => rfl
  | cons p l2 => rw [T.eqvM] at h; cases h; all_goals simp
 | cons p l1 ih => cases l2 with
  | nil => rw [T.eqvM] at h; cases h; all_goals simp
  | cons q l2 =>
   obtain ⟨k, a⟩ := p
   obtain ⟨j, b⟩ := q
   rw [T.eqvM, Bool.and_eq_true, Bool.and_eq_true, decide_eq_true_iff] at h
   simp [h.1, ih h.2.2]

theorem getT_cons {α : Type} (k : ByteArray) (a : α) (l : List (ByteArray × α)) (x : ByteArray) : getT ((k, a) :: l) x = if k = x then some a else getT l x := by
 unfold getT
 rw [List.find?_cons]
 by_cases h : k = x <;> simp [h]

theorem eqvM_iff' {l1 l2 : List (ByteArray × T)} (s1 : Sorted l1) (s2 : Sorted l2) : T.eqvM l1 l2 = true ↔ l1.length = l2.length ∧ ∀ k ∈ l2.map Prod.fst, eqK l1 l2 k = true := by
 induction l1 generalizing l2 with
 | nil => cases l2 with
  | nil => simp [T.eqvM]
  | cons q l2 => simp [T.eqvM]
 | cons p l1 ih => cases l2 with
  | nil => simp [T.eqvM]
  | cons q l2 =>
   obtain ⟨k, a⟩ := p
   obtain ⟨j, b⟩ := q
   have t1 := (List.pairwise_cons.1 s1).1
   have t2 := (List.pairwise_cons.1 s2).1
   have r1 := (List.pairwise_cons.1 s1).2
   have r2 := (List.pairwise_cons.1 s2).2
   have ih' := ih r1 r2
   have hk1 : ∀ x ∈ l1.map Prod.fst, klt k x = true := fun x hx => by obtain ⟨p, hp, rfl⟩ := List.mem_map.1 hx; exact t1 p hp
   have hk2 : ∀ x ∈ l2.map Prod.fst, klt j x = true := fun x hx => by obtain ⟨p, hp, rfl⟩ := List.mem_map.1 hx; exact t2 p hp
   have hrest : k = j → ∀ x ∈ l2.map Prod.fst, eqK ((k, a) :: l1) ((j, b) :: l2) x = eqK l1 l2 x := by
    rintro rfl x hx
    have hne : ¬ k = x := klt_ne (hk2 x hx)
    unfold eqK
    rw [getT_cons, getT_cons, if_neg hne, if_neg hne]
   rw [T.eqvM, Bool.and_eq_true, Bool.and_eq_true, decide_eq_true_iff, ih']
   constructor
   ·rintro ⟨rfl, hab, hlen, hall⟩
    refine ⟨by simpa using hlen, fun x hx => ?_⟩
    rcases List.mem_cons.1 hx with rfl | hx
    ·unfold eqK
     rw [getT_cons, getT_cons, if_pos rfl, if_pos rfl]
     exact hab
    ·rw [hrest rfl x hx]
     exact hall x hx
   ·rintro ⟨hlen, hall⟩
    have hlen' : l1.length = l2.length := by simpa using hlen
    -- the keys are the same
    have hsub : ∀ x ∈ ((j, b) :: l2).map Prod.fst, x ∈ ((k, a) :: l1).map Prod.fst := by
     intro x hx
     have h := hall x hx
     unfold eqK at h
     cases hg : getT ((k, a) :: l1) x with
     | none => rw [hg] at h; cases h
     | some t => exact List.mem_map.2 ⟨_, getT_mem hg, rfl⟩
    have hback : ∀ x ∈ ((k, a) :: l1).map Prod.fst, x ∈ ((j, b) :: l2).map Prod.fst := by
     intro x hx
     refine Classical.byContradiction fun hn => ?_
     have hnd : (x :: ((j, b) :: l2).map Prod.fst).Nodup := List.nodup_cons.2 ⟨hn, (sortK_of s2).nodup⟩
     have := hnd.length_le_of_subset (l₂ := ((k, a) :: l1).map Prod.fst) (fun y hy => by
      rcases List.mem_cons.1 hy with rfl | hy
      ·exact hx
      ·exact hsub y hy)
     simp only [List.length_cons, List.length_map] at this
     omega
    have hkeys : ((k, a) :: l1).map Prod.fst = ((j, b) :: l2).map Prod.fst := sortK_ext (sortK_of s1) (sortK_of s2) fun x => ⟨hback x, hsub x⟩
    have hkj : k = j := by
     have := congrArg List.head? hkeys
     simpa using this
    have h0 := hall j (by simp)
    unfold eqK at h0
    rw [getT_cons, getT_cons, if_pos hkj, if_pos rfl] at h0
    refine ⟨hkj, h0, hlen', fun x hx => ?_⟩
    rw [← hrest hkj x hx]
    exact hall x (by simp only [List.map_cons, List.mem_cons]; exact .inr hx)
theorem eqvM_false {l1 l2 : List (ByteArray × T)} (s1 : Sorted l1) (s2 : Sorted l2) {k : ByteArray} (hk : k ∈ l2.map Prod.fst) (h : eqK l1 l2 k = false) : T.eqvM l1 l2 = false := by
 rw [Bool.eq_false_iff]
 intro h'
 have := ((eqvM_iff' s1 s2).1 h').2 k hk
 rw [h] at this
 cases this
end Go.Proofs.YtbicoknghdgahaaGreat

namespace Go.Proofs.YtbicoknghdgahaaGreat
open Go.RowKit
attribute [local go_sem] run_store_float

end Go.Proofs.YtbicoknghdgahaaGreat

namespace Go.Proofs.YtbicoknghdgahaaGreat
open Go.RowKit

end Go.Proofs.YtbicoknghdgahaaGreat

namespace Go.Proofs.YtbicoknghdgahaaGreat
open Go.RowKit

def EqvOK (a b : T) : Prop := ∀ (w : World) (pa : Addr) (v1 v2 : Value), ValAt (Old w) w a v1 → ValAt (Old w) w b v2 → Calls Tryz.prog 199 #[.iface 303 (.pointer (some pa)), v1, v2] w (EqPost (T.eqv a b) w)
end Go.Proofs.YtbicoknghdgahaaGreat

namespace Go.Proofs.YtbicoknghdgahaaGreat
open Go.RowKit
attribute [local go_sem] run_store_float run_load_k

attribute [local go_sem] meth_allocRange

end Go.Proofs.YtbicoknghdgahaaGreat

namespace Go.Proofs.YtbicoknghdgahaaGreat
open Go.RowKit
attribute [local go_sem] run_store_float run_load_k meth_allocVu

end Go.Proofs.YtbicoknghdgahaaGreat

namespace Go.Proofs.YtbicoknghdgahaaGreat
open Go.RowKit
attribute [local go_sem] run_store_float run_load_k meth_allocVu meth_Free

end Go.Proofs.YtbicoknghdgahaaGreat

namespace Go.Proofs.YtbicoknghdgahaaGreat
open Go.RowKit
theorem meth_LEqualsUsing (n : Nat) (v : Value) (w : World) : (method (n + 1) 452 v "EqualsUsing").run Tryz.prog w = .ok (333, v) w := by kernel_rfl
attribute [local go_sem] run_store_float run_load_k meth_RangeUsing meth_Next meth_Item meth_emptyNext meth_Free meth_LLength meth_PLength meth_PRangeUsing

theorem listLength_calls (A : Option Addr) (n c : Nat) (w : World) : Calls Tryz.prog 334 #[.slice A n c] w fun e w' => e = .returned (.int .i64 (n : Int)) ∧ w = w' := by
 go_enter Tryz.func334, Tryz.ntmps334
 go_wp2
 go_ret
 exact ⟨rfl, rfl⟩

def LEInv (w : World) (s1 s2 : Value) (l1 l2 : List T) (c : Bool) (wr : World) : Prop := ∃ k : Nat, k ≤ l1.length ∧ T.eqvL (l1.drop k) (l2.drop k) = c ∧ LC w s1 s2 ((k : Int) - 1) ((k : Int) - 1) wr

set_option maxRecDepth 100000 in
set_option maxHeartbeats 1000000 in
theorem listEquals_lenP (l1 l2 : List T) (gp : Nat) (A1 A2 : Option Addr) (c1 c2 : Nat) (pa : Addr) (w : World) (hne : l1.length ≠ l2.length) (hp : Bk w gp 452 #[.slice A1 l1.length c1]) :
  Calls Tryz.prog 337 #[.iface 303 (.pointer (some pa)), .iface 478 (.pointer (some ⟨gp, 0, none⟩)), .iface 452 (.slice A2 l2.length c2)] w (EqPost (T.eqvL l1 l2) w) := by
 have hi : ¬ (l1.length : Int) = (l2.length : Int) := by omega
 rw [eqvL_len hne]
 have qp := hp.cell 0
 simp at qp
 go_enter_defers Tryz.func337, Tryz.ntmps337
 go_wp2_with fail
 refine (listLength_calls _ _ _ _).mono ?_
 rintro e w1 ⟨rfl, rfl⟩
 go_wp2_with fail
 refine (listLength_calls _ _ _ _).mono ?_
 rintro e w1 ⟨rfl, rfl⟩
 go_wp2_with fail
 exact ⟨_, results_tmp rfl _ _ _, rfl, Below.refl _ _⟩

set_option maxRecDepth 100000 in
set_option maxHeartbeats 1000000 in
theorem listEquals_noneP (gp : Nat) (A1 A2 : Option Addr) (c1 c2 : Nat) (pa : Addr) (w : World) (hp : Bk w gp 452 #[.slice A1 0 c1]) :
  Calls Tryz.prog 337 #[.iface 303 (.pointer (some pa)), .iface 478 (.pointer (some ⟨gp, 0, none⟩)), .iface 452 (.slice A2 0 c2)] w (EqPost true w) := by
 have qp := hp.cell 0
 simp at qp
 go_enter_defers Tryz.func337, Tryz.ntmps337
 go_wp2_with fail
 refine (listLength_calls _ _ _ _).mono ?_
 rintro e w1 ⟨rfl, rfl⟩
 go_wp2_with fail
 refine (listLength_calls _ _ _ _).mono ?_
 rintro e w1 ⟨rfl, rfl⟩
 go_wp2_with fail
 refine (rangeUsing_empty _ _ _ _).mono ?_
 rintro e w1 ⟨rfl, rfl⟩
 go_wp2_with fail
 refine (rangeUsing_empty _ _ _ _).mono ?_
 rintro e w2 ⟨rfl, rfl⟩
 go_wp2_with fail
 generalize hW : World.alloc _ _ = W
 have hbw : Below w.heap.size w W := by rw [← hW]; exact ((Below.refl _ _).alloc (Nat.le_refl _) _).alloc (by simp) _
 have HW := hide hW
 have Hbw := hide hbw
 clear hW hbw
 go_loopw [9] (fun _ wr => W = wr) (fun _ _ => 0)
 case atStart => rfl
 case round =>
  subst hrel
  go_wp2_with fail
  refine (emptyNext_calls _ _).mono ?_
  rintro e W1 ⟨rfl, rfl⟩
  go_wp2_with fail
  refine leaves_cons (f := 323) (args := #[.pointer (some pa), .iface 479 (.pointer (some ⟨w.heap.size + 1, 0, none⟩))]) (by simp) (by simp [go_sem, meth_Free]) ?_
  refine (free_deferred pa _ .returning _).mono ?_
  rintro e u' w' ⟨rfl, rfl, rfl⟩
  refine leaves_cons (f := 323) (args := #[.pointer (some pa), .iface 479 (.pointer (some ⟨w.heap.size, 0, none⟩))]) (by simp [settle]) (by simp [go_sem, meth_Free]) ?_
  refine (free_deferred pa _ .returning _).mono ?_
  rintro e u' w' ⟨rfl, rfl, rfl⟩
  exact ⟨_, results_tmp rfl _ _ _, rfl, Hbw.out⟩

set_option maxRecDepth 100000 in
set_option maxHeartbeats 2000000 in
theorem listEquals_bothP (l1 l2 : List T) (hok : ∀ a ∈ l1, ∀ b ∈ l2, EqvOK a b) (gp : Nat) (A1 A2 : Option Addr) (c1 c2 : Nat) (xs1 xs2 : List Value) (pa : Addr) (w : World) (hn1 : 0 < l1.length) (hn2 : l1.length = l2.length) (hb1 : l1.length * 88 ≤ R47)
  (hr1 : Row (Old w) w 1 A1 l1.length xs1) (hr2 : Row (Old w) w 1 A2 l2.length xs2) (hx1 : AnysAt (Old w) w l1 xs1) (hx2 : AnysAt (Old w) w l2 xs2) (hp : Bk w gp 452 #[.slice A1 l1.length c1]) :
  Calls Tryz.prog 337 #[.iface 303 (.pointer (some pa)), .iface 478 (.pointer (some ⟨gp, 0, none⟩)), .iface 452 (.slice A2 l2.length c2)] w (EqPost (T.eqvL l1 l2) w) := by
 have hlb1 : l1.length ≤ 8796093022208 := by unfold R47 at hb1; omega
 have hlb2 : l2.length ≤ 8796093022208 := by unfold R47 at hb1; omega
 obtain ⟨c, hcv⟩ : ∃ c, T.eqvL l1 l2 = c := ⟨_, rfl⟩
 rw [hcv]
 have Hc := hide hcv
 have Hok := hide hok
 have HR1 := hide hr1
 have HR2 := hide hr2
 have HX1 := hide hx1
 have HX2 := hide hx2
 have hll : (l1.length : Int) = (l2.length : Int) := by omega
 have Hll := hide hn2
 have qp := hp.cell 0
 simp at qp
 clear hcv hok hr1 hr2 hx1 hx2 hb1 hn2
 go_enter_defers Tryz.func337, Tryz.ntmps337
 go_wp2_with fail
 refine (listLength_calls _ _ _ _).mono ?_
 rintro e w1 ⟨rfl, rfl⟩
 go_wp2_with fail
 refine (listLength_calls _ _ _ _).mono ?_
 rintro e w1 ⟨rfl, rfl⟩
 go_wp2_with fail
 clear hll
 refine (rangeUsing_calls _ _ _ hn1 _ _).mono ?_
 rintro e w1 ⟨rfl, rfl⟩
 go_wp2_with fail
 refine (rangeUsing_calls _ _ _ (by rw [← Hll.out]; exact hn1) _ _).mono ?_
 rintro e w2 ⟨rfl, rfl⟩
 go_wp2_with fail
 go_loopw [9] (fun _ wr => LEInv w (.slice A1 l1.length c1) (.slice A2 l2.length c2) l1 l2 c wr) (fun _ wr => LCMes w l1.length wr)
 case atStart =>
  obtain ⟨_, _, _, _, hst⟩ := lc_start w (.slice A1 l1.length c1) (.slice A2 l2.length c2) [] []
  obtain ⟨k, hk, _, _, hst⟩ := lc_start w (.slice A1 l1.length c1) (.slice A2 l2.length c2) [] []
  have hk0 : k = 0 := by simpa using hk
  subst hk0
  exact ⟨0, Nat.zero_le _, by simpa using Hc.out, hst⟩
 case round =>
  obtain ⟨k, hk1, hcmp, st⟩ := hrel
  have Hcmp := hide hcmp
  have Hst := hide st
  clear hcmp st
  go_wp2_with fail
  refine (next_k _ _ _ _ _ k _ (by omega) Hst.out.r1).mono ?_
  rintro e W1 ⟨rfl, m1, hW1⟩
  have Hst1 := hide (Hst.out.next1 (k : Int) m1)
  rw [hW1] at Hst1
  clear hW1
  by_cases h1 : k < l1.length
  ·have hd1 : decide (k < l1.length) = true := by simpa using h1
   rw [hd1]
   have h2 : k < l2.length := by rw [← Hll.out]; exact h1
   go_wp2_with fail
   refine (next_k _ _ _ _ _ k _ (by omega) Hst1.out.r2).mono ?_
   rintro e W2 ⟨rfl, m2, hW2⟩
   have Hst2 := hide (Hst1.out.next2 (k : Int) m2)
   rw [hW2] at Hst2
   clear hW2
   have hd2 : decide (k < l2.length) = true := by simpa using h2
   rw [hd2]
   obtain ⟨u1, hu1⟩ : ∃ u, xs1[k]? = some u := ⟨_, List.getElem?_eq_getElem (by have := HR1.out.1; omega)⟩
   obtain ⟨u2, hu2⟩ : ∃ u, xs2[k]? = some u := ⟨_, List.getElem?_eq_getElem (by have := HR2.out.1; omega)⟩
   have ha1 := HX1.out k l1[k] u1 (List.getElem?_eq_getElem h1) hu1
   have ha2 := HX2.out k l2[k] u2 (List.getElem?_eq_getElem h2) hu2
   obtain ⟨b1, o1, rfl, hF1, hc1⟩ := row1_at HR1.out h1 hu1
   obtain ⟨b2, o2, rfl, hF2, hc2⟩ := row1_at HR2.out h2 hu2
   have hok := Hok.out l1[k] (List.getElem_mem h1) l2[k] (List.getElem_mem h2)
   have hcs : T.eqvL (l1.drop k) (l2.drop k) = (T.eqv l1[k] l2[k] && T.eqvL (l1.drop (k + 1)) (l2.drop (k + 1))) := by
    rw [List.drop_eq_getElem_cons h1, List.drop_eq_getElem_cons h2, T.eqvL]
   generalize l1[k] = t1 at ha1 hok hcs
   generalize l2[k] = t2 at ha2 hok hcs
   have Hh := hide (And.intro (And.intro ha1 ha2) (And.intro hok hcs))
   have Hcell := hide (And.intro hc1 hc2)
   clear ha1 ha2 hok hcs hu1 hu2 hc1 hc2 hd1 hd2
   obtain ⟨x1, hx1⟩ := Hst2.out.v1
   have Hx1 := hide hx1
   clear hx1
   go_wp2_with fail
   refine (item_calls (w.heap.size + 1) w.heap.size x1 b1 o1 _ _ k h1 (by omega) Hh.out.1.1 W2 Hst2.out.r1 Hx1.out (((bcell Hst2.out.below).1 _ _ hF1).trans Hcell.out.1) (by omega) (Nat.ne_of_lt hF1)).mono ?_
   rintro e W3 ⟨rfl, n1, n2, hW3⟩
   have Hst3 := hide (Hst2.out.item1 u1 n1 n2)
   rw [hW3] at Hst3
   clear hW3
   obtain ⟨x2, hx2⟩ := Hst3.out.1.v2
   have Hx2 := hide hx2
   clear hx2
   go_wp2_with fail
   refine (item_calls (w.heap.size + 3) (w.heap.size + 2) x2 b2 o2 _ _ k h2 (by omega) Hh.out.1.2 W3 Hst3.out.1.r2 Hx2.out (((bcell Hst3.out.1.below).1 _ _ hF2).trans Hcell.out.2) (by omega) (by have : b2 < w.heap.size := hF2; omega)).mono ?_
   rintro e W4 ⟨rfl, n3, n4, hW4⟩
   have Hst4 := hide (Hst3.out.1.item2 Hst3.out.2 u2 n3 n4)
   rw [hW4] at Hst4
   clear hW4
   go_wp2_with fail
   obtain ⟨d, hd⟩ : ∃ d, T.eqv t1 t2 = d := ⟨_, rfl⟩
   have hcall := Hh.out.2.1 W4 pa (.iface 302 (.pointer (some ⟨w.heap.size, 0, none⟩))) (.iface 302 (.pointer (some ⟨w.heap.size + 2, 0, none⟩)))
    ⟨w.heap.size, u1, rfl, Hst4.out.2.1.lt, Hst4.out.2.1, (Hh.out.1.1.keeps (Keeps.below Hst4.out.1.below fun _ hx => hx)).mono fun _ hx => Nat.lt_of_lt_of_le hx Hst4.out.1.below.size⟩
    ⟨w.heap.size + 2, u2, rfl, Hst4.out.2.2.lt, Hst4.out.2.2, (Hh.out.1.2.keeps (Keeps.below Hst4.out.1.below fun _ hx => hx)).mono fun _ hx => Nat.lt_of_lt_of_le hx Hst4.out.1.below.size⟩
   rw [hd] at hcall
   refine hcall.mono ?_
   have Hd := hide hd
   clear hcall hd
   rintro e W5 ⟨rfl, hb5⟩
   have Hst5 := hide (Hst4.out.1.calls hb5)
   clear hb5
   cases d
   ·go_wp2_with fail
    refine leaves_cons (f := 323) (args := #[.pointer (some pa), .iface 476 (.pointer (some ⟨w.heap.size + 1 + 1 + 1, 0, none⟩))]) (by simp) (by simp [go_sem, meth_Free]) ?_
    refine (free_deferred pa _ .returning _).mono ?_
    rintro e u' w' ⟨rfl, rfl, rfl⟩
    refine leaves_cons (f := 323) (args := #[.pointer (some pa), .iface 476 (.pointer (some ⟨w.heap.size + 1, 0, none⟩))]) (by simp [settle]) (by simp [go_sem, meth_Free]) ?_
    refine (free_deferred pa _ .returning _).mono ?_
    rintro e u' w' ⟨rfl, rfl, rfl⟩
    have hcv := Hcmp.out
    rw [Hh.out.2.2, Hd.out, Bool.false_and] at hcv
    subst hcv
    exact ⟨_, results_tmp rfl _ _ _, rfl, Hst5.out.below⟩
   ·go_wp2_with fail
    have hcv := Hcmp.out
    rw [Hh.out.2.2, Hd.out, Bool.true_and] at hcv
    have e : (((k + 1 : Nat) : Int) - 1) = (k : Int) := by omega
    refine ⟨⟨k + 1, h1, hcv, by rw [e]; exact Hst5.out⟩, ?_⟩
    rw [LCMes_at Hst5.out, LCMes_at Hst.out]
    omega
  ·have hd1 : decide (k < l1.length) = false := by simpa using h1
   rw [hd1]
   clear hd1
   go_wp2_with fail
   refine leaves_cons (f := 323) (args := #[.pointer (some pa), .iface 476 (.pointer (some ⟨w.heap.size + 1 + 1 + 1, 0, none⟩))]) (by simp) (by simp [go_sem, meth_Free]) ?_
   refine (free_deferred pa _ .returning _).mono ?_
   rintro e u' w' ⟨rfl, rfl, rfl⟩
   refine leaves_cons (f := 323) (args := #[.pointer (some pa), .iface 476 (.pointer (some ⟨w.heap.size + 1, 0, none⟩))]) (by simp [settle]) (by simp [go_sem, meth_Free]) ?_
   refine (free_deferred pa _ .returning _).mono ?_
   rintro e u' w' ⟨rfl, rfl, rfl⟩
   have hcv := Hcmp.out
   rw [List.drop_of_length_le (by omega), List.drop_of_length_le (by have := Hll.out; omega), T.eqvL] at hcv
   subst hcv
   exact ⟨_, results_tmp rfl _ _ _, rfl, Hst1.out.below⟩

theorem listEquals_callsP (l1 l2 : List T) (hok : ∀ a ∈ l1, ∀ b ∈ l2, EqvOK a b) (gp : Nat) (A1 A2 : Option Addr) (c1 c2 : Nat) (xs1 xs2 : List Value) (pa : Addr) (w : World) (hb1 : l1.length * 88 ≤ R47)
  (hr1 : Row (Old w) w 1 A1 l1.length xs1) (hr2 : Row (Old w) w 1 A2 l2.length xs2) (hx1 : AnysAt (Old w) w l1 xs1) (hx2 : AnysAt (Old w) w l2 xs2) (hp : Bk w gp 452 #[.slice A1 l1.length c1]) :
  Calls Tryz.prog 337 #[.iface 303 (.pointer (some pa)), .iface 478 (.pointer (some ⟨gp, 0, none⟩)), .iface 452 (.slice A2 l2.length c2)] w (EqPost (T.eqvL l1 l2) w) := by
 by_cases hl : l1.length = l2.length
 ·cases l1 with
  | nil =>
   cases l2 with
   | nil => rw [T.eqvL]; exact listEquals_noneP gp A1 A2 c1 c2 pa w hp
   | cons b l2 => exact absurd hl (by simp)
  | cons a l1 => exact listEquals_bothP _ _ hok gp A1 A2 c1 c2 xs1 xs2 pa w (by simp) hl hb1 hr1 hr2 hx1 hx2 hp
 ·exact listEquals_lenP l1 l2 gp A1 A2 c1 c2 pa w hl hp

end Go.Proofs.YtbicoknghdgahaaGreat

namespace Go.Proofs.YtbicoknghdgahaaGreat
open Go.RowKit
attribute [local go_sem] run_store_float run_load_k meth_IsNull meth_IsFloat meth_IsInt meth_IsString meth_IsBool meth_IsList meth_IsMap meth_AsFloat meth_AsInt meth_AsString meth_AsBool

attribute [local go_sem] T.isNull T.isFlt T.isInt T.isStr T.isBool T.isList T.isMap

set_option maxRecDepth 100000 in
set_option maxHeartbeats 4000000 in
theorem equalsFlt (f : Nat) {F G : Nat → Prop} {t : T} {v1 v2 : Value} {w : World} (pa : Addr) (h1 : ValAt F w (.flt f) v1) (h2 : ValAt G w t v2) (hF : ∀ b, F b → b < w.heap.size) (hG : ∀ b, G b → b < w.heap.size) :
  Calls Tryz.prog 199 #[.iface 303 (.pointer (some pa)), v1, v2] w (EqPost (T.eqv (.flt f) t) w) := by
 obtain ⟨p, u, rfl, hp, hB, hu⟩ := h1
 obtain ⟨q, v, rfl, hq, hC, hv⟩ := h2
 have hpl := hF p hp
 have hql := hG q hq
 have hc := hB.cell 0
 have hd := hC.cell 0
 simp at hc hd
 clear hB hC hF hG hp hq
 have hst : St2 w p q u v w := ⟨hc, hd, Below.refl _ _⟩
 obtain ⟨c, hcv⟩ : ∃ c, T.eqv (.flt f) t = c := ⟨_, rfl⟩
 rw [hcv]
 have Hc := hide hcv
 clear hcv
 have Hu := hide hu
 have Hv := hide hv
 clear hv
 cases hu
 go_enter_defers Tryz.func199, Tryz.ntmps199
 go_wp2_with fail
 refine (St2.call hst hpl hql (IsFloat_calls Hu.out _)).mono ?_
 rintro e w1 ⟨rfl, hst⟩
 have hc := hst.1
 have hd := hst.2.1
 go_wp2_with fail
 refine (St2.call hst hpl hql (IsFloat_calls Hu.out _)).mono ?_
 rintro e w1 ⟨rfl, hst⟩
 have hc := hst.1
 have hd := hst.2.1
 go_wp2_with fail
 refine (St2.call hst hpl hql (AsFloat_calls _ _)).mono ?_
 rintro e w1 ⟨rfl, hst⟩
 have hc := hst.1
 have hd := hst.2.1
 go_wp2_with fail
 refine (St2.call hst hpl hql (IsFloat_calls Hv.out _)).mono ?_
 rintro e w1 ⟨rfl, hst⟩
 have hc := hst.1
 have hd := hst.2.1
 cases hxflt : t.isFlt
 rotate_left
 ·skip
  obtain ⟨f', rfl, rfl⟩ := form_flt Hv.out hxflt
  go_wp2_with fail
  refine (St2.call hst hpl hql (AsFloat_calls _ _)).mono ?_
  rintro e w1 ⟨rfl, hst⟩
  have hc := hst.1
  have hd := hst.2.1
  go_wp2_with fail
  have hcv := Hc.out
  simp only [T.eqv, toF] at hcv
  subst hcv
  refine ⟨_, results_tmp rfl _ _ _, ?_, hst.2.2⟩
  first | rfl | exact ret_bool (str_eq _ _) | exact ret_bool (by simp [Bool.eq_iff_iff])
 go_wp2_with fail
 refine (St2.call hst hpl hql (IsInt_calls Hv.out _)).mono ?_
 rintro e w1 ⟨rfl, hst⟩
 have hc := hst.1
 have hd := hst.2.1
 cases hxint : t.isInt
 rotate_left
 ·skip
  obtain ⟨n', rfl, rfl⟩ := form_int Hv.out hxint
  go_wp2_with fail
  refine (St2.call hst hpl hql (AsInt_calls _ _)).mono ?_
  rintro e w1 ⟨rfl, hst⟩
  have hc := hst.1
  have hd := hst.2.1
  go_wp2_with fail
  have hcv := Hc.out
  simp only [T.eqv, toF] at hcv
  subst hcv
  refine ⟨_, results_tmp rfl _ _ _, ?_, hst.2.2⟩
  first | rfl | exact ret_bool (str_eq _ _) | exact ret_bool (by simp [Bool.eq_iff_iff])
 go_wp2_with fail
 have hcv := Hc.out
 have hz : T.eqv (.flt f) t = false := by cases t <;> first | (simp [T.eqv]; done) | (simp [T.isFlt] at hxflt; done) | (simp [T.isInt] at hxint; done)
 rw [hz] at hcv
 subst hcv
 exact ⟨_, results_tmp rfl _ _ _, rfl, hst.2.2⟩

end Go.Proofs.YtbicoknghdgahaaGreat

namespace Go.Proofs.YtbicoknghdgahaaGreat
open Go.RowKit
attribute [local go_sem] run_store_float run_load_k meth_IsNull meth_IsFloat meth_IsInt meth_IsString meth_IsBool meth_IsList meth_IsMap meth_AsFloat meth_AsInt meth_AsString meth_AsBool

attribute [local go_sem] T.isNull T.isFlt T.isInt T.isStr T.isBool T.isList T.isMap

set_option maxRecDepth 100000 in
set_option maxHeartbeats 4000000 in
theorem equalsInt (n : Int) {F G : Nat → Prop} {t : T} {v1 v2 : Value} {w : World} (pa : Addr) (h1 : ValAt F w (.int n) v1) (h2 : ValAt G w t v2) (hF : ∀ b, F b → b < w.heap.size) (hG : ∀ b, G b → b < w.heap.size) :
  Calls Tryz.prog 199 #[.iface 303 (.pointer (some pa)), v1, v2] w (EqPost (T.eqv (.int n) t) w) := by
 obtain ⟨p, u, rfl, hp, hB, hu⟩ := h1
 obtain ⟨q, v, rfl, hq, hC, hv⟩ := h2
 have hpl := hF p hp
 have hql := hG q hq
 have hc := hB.cell 0
 have hd := hC.cell 0
 simp at hc hd
 clear hB hC hF hG hp hq
 have hst : St2 w p q u v w := ⟨hc, hd, Below.refl _ _⟩
 obtain ⟨c, hcv⟩ : ∃ c, T.eqv (.int n) t = c := ⟨_, rfl⟩
 rw [hcv]
 have Hc := hide hcv
 clear hcv
 have Hu := hide hu
 have Hv := hide hv
 clear hv
 cases hu
 go_enter_defers Tryz.func199, Tryz.ntmps199
 go_wp2_with fail
 refine (St2.call hst hpl hql (IsFloat_calls Hu.out _)).mono ?_
 rintro e w1 ⟨rfl, hst⟩
 have hc := hst.1
 have hd := hst.2.1
 go_wp2_with fail
 refine (St2.call hst hpl hql (IsFloat_calls Hv.out _)).mono ?_
 rintro e w1 ⟨rfl, hst⟩
 have hc := hst.1
 have hd := hst.2.1
 cases hxflt : t.isFlt
 rotate_left
 ·skip
  obtain ⟨f', rfl, rfl⟩ := form_flt Hv.out hxflt
  go_wp2_with fail
  refine (St2.call hst hpl hql (IsFloat_calls Hu.out _)).mono ?_
  rintro e w1 ⟨rfl, hst⟩
  have hc := hst.1
  have hd := hst.2.1
  go_wp2_with fail
  refine (St2.call hst hpl hql (IsInt_calls Hu.out _)).mono ?_
  rintro e w1 ⟨rfl, hst⟩
  have hc := hst.1
  have hd := hst.2.1
  go_wp2_with fail
  refine (St2.call hst hpl hql (AsInt_calls _ _)).mono ?_
  rintro e w1 ⟨rfl, hst⟩
  have hc := hst.1
  have hd := hst.2.1
  go_wp2_with fail
  refine (St2.call hst hpl hql (IsFloat_calls Hv.out _)).mono ?_
  rintro e w1 ⟨rfl, hst⟩
  have hc := hst.1
  have hd := hst.2.1
  go_wp2_with fail
  refine (St2.call hst hpl hql (AsFloat_calls _ _)).mono ?_
  rintro e w1 ⟨rfl, hst⟩
  have hc := hst.1
  have hd := hst.2.1
  go_wp2_with fail
  have hcv := Hc.out
  simp only [T.eqv, toF] at hcv
  subst hcv
  refine ⟨_, results_tmp rfl _ _ _, ?_, hst.2.2⟩
  first | rfl | exact ret_bool (str_eq _ _) | exact ret_bool (by simp [Bool.eq_iff_iff])
 go_wp2_with fail
 refine (St2.call hst hpl hql (IsInt_calls Hu.out _)).mono ?_
 rintro e w1 ⟨rfl, hst⟩
 have hc := hst.1
 have hd := hst.2.1
 go_wp2_with fail
 refine (St2.call hst hpl hql (IsInt_calls Hv.out _)).mono ?_
 rintro e w1 ⟨rfl, hst⟩
 have hc := hst.1
 have hd := hst.2.1
 cases hxint : t.isInt
 rotate_left
 ·skip
  obtain ⟨n', rfl, rfl⟩ := form_int Hv.out hxint
  go_wp2_with fail
  refine (St2.call hst hpl hql (AsInt_calls _ _)).mono ?_
  rintro e w1 ⟨rfl, hst⟩
  have hc := hst.1
  have hd := hst.2.1
  go_wp2_with fail
  refine (St2.call hst hpl hql (AsInt_calls _ _)).mono ?_
  rintro e w1 ⟨rfl, hst⟩
  have hc := hst.1
  have hd := hst.2.1
  go_wp2_with fail
  have hcv := Hc.out
  simp only [T.eqv, toF] at hcv
  subst hcv
  refine ⟨_, results_tmp rfl _ _ _, ?_, hst.2.2⟩
  first | rfl | exact ret_bool (str_eq _ _) | exact ret_bool (by simp [Bool.eq_iff_iff])
 go_wp2_with fail
 have hcv := Hc.out
 have hz : T.eqv (.int n) t = false := by cases t <;> first | (simp [T.eqv]; done) | (simp [T.isFlt] at hxflt; done) | (simp [T.isInt] at hxint; done)
 rw [hz] at hcv
 subst hcv
 exact ⟨_, results_tmp rfl _ _ _, rfl, hst.2.2⟩

end Go.Proofs.YtbicoknghdgahaaGreat

namespace Go.Proofs.YtbicoknghdgahaaGreat
open Go.RowKit
attribute [local go_sem] run_store_float run_load_k meth_IsNull meth_IsFloat meth_IsInt meth_IsString meth_IsBool meth_IsList meth_IsMap meth_AsFloat meth_AsInt meth_AsString meth_AsBool

attribute [local go_sem] T.isNull T.isFlt T.isInt T.isStr T.isBool T.isList T.isMap

set_option maxRecDepth 100000 in
set_option maxHeartbeats 4000000 in
theorem equalsStr (s : ByteArray) {F G : Nat → Prop} {t : T} {v1 v2 : Value} {w : World} (pa : Addr) (h1 : ValAt F w (.str s) v1) (h2 : ValAt G w t v2) (hF : ∀ b, F b → b < w.heap.size) (hG : ∀ b, G b → b < w.heap.size) :
  Calls Tryz.prog 199 #[.iface 303 (.pointer (some pa)), v1, v2] w (EqPost (T.eqv (.str s) t) w) := by
 obtain ⟨p, u, rfl, hp, hB, hu⟩ := h1
 obtain ⟨q, v, rfl, hq, hC, hv⟩ := h2
 have hpl := hF p hp
 have hql := hG q hq
 have hc := hB.cell 0
 have hd := hC.cell 0
 simp at hc hd
 clear hB hC hF hG hp hq
 have hst : St2 w p q u v w := ⟨hc, hd, Below.refl _ _⟩
 obtain ⟨c, hcv⟩ : ∃ c, T.eqv (.str s) t = c := ⟨_, rfl⟩
 rw [hcv]
 have Hc := hide hcv
 clear hcv
 have Hu := hide hu
 have Hv := hide hv
 clear hv
 cases hu
 go_enter_defers Tryz.func199, Tryz.ntmps199
 go_wp2_with fail
 refine (St2.call hst hpl hql (IsFloat_calls Hu.out _)).mono ?_
 rintro e w1 ⟨rfl, hst⟩
 have hc := hst.1
 have hd := hst.2.1
 go_wp2_with fail
 refine (St2.call hst hpl hql (IsFloat_calls Hv.out _)).mono ?_
 rintro e w1 ⟨rfl, hst⟩
 have hc := hst.1
 have hd := hst.2.1
 cases hxflt : t.isFlt
 rotate_left
 ·skip
  obtain ⟨f', rfl, rfl⟩ := form_flt Hv.out hxflt
  go_wp2_with fail
  refine (St2.call hst hpl hql (IsFloat_calls Hu.out _)).mono ?_
  rintro e w1 ⟨rfl, hst⟩
  have hc := hst.1
  have hd := hst.2.1
  go_wp2_with fail
  refine (St2.call hst hpl hql (IsInt_calls Hu.out _)).mono ?_
  rintro e w1 ⟨rfl, hst⟩
  have hc := hst.1
  have hd := hst.2.1
  go_wp2_with fail
  have hcv := Hc.out
  have hz : T.eqv (.str s) (.flt f') = false := by first | (simp [T.eqv]; done) 
  rw [hz] at hcv
  subst hcv
  exact ⟨_, results_tmp rfl _ _ _, rfl, hst.2.2⟩
 go_wp2_with fail
 refine (St2.call hst hpl hql (IsInt_calls Hu.out _)).mono ?_
 rintro e w1 ⟨rfl, hst⟩
 have hc := hst.1
 have hd := hst.2.1
 go_wp2_with fail
 refine (St2.call hst hpl hql (IsInt_calls Hv.out _)).mono ?_
 rintro e w1 ⟨rfl, hst⟩
 have hc := hst.1
 have hd := hst.2.1
 cases hxint : t.isInt
 rotate_left
 ·skip
  go_wp2_with fail
  have hcv := Hc.out
  have hz : T.eqv (.str s) t = false := by cases t <;> first | (simp [T.eqv]; done) | (simp [T.isInt] at hxint; done)
  rw [hz] at hcv
  subst hcv
  exact ⟨_, results_tmp rfl _ _ _, rfl, hst.2.2⟩
 go_wp2_with fail
 refine (St2.call hst hpl hql (IsString_calls Hu.out _)).mono ?_
 rintro e w1 ⟨rfl, hst⟩
 have hc := hst.1
 have hd := hst.2.1
 go_wp2_with fail
 refine (St2.call hst hpl hql (IsString_calls Hv.out _)).mono ?_
 rintro e w1 ⟨rfl, hst⟩
 have hc := hst.1
 have hd := hst.2.1
 cases hxstr : t.isStr
 rotate_left
 ·skip
  obtain ⟨s', rfl, rfl⟩ := form_str Hv.out hxstr
  go_wp2_with fail
  refine (St2.call hst hpl hql (AsString_calls _ _)).mono ?_
  rintro e w1 ⟨rfl, hst⟩
  have hc := hst.1
  have hd := hst.2.1
  go_wp2_with fail
  refine (St2.call hst hpl hql (AsString_calls _ _)).mono ?_
  rintro e w1 ⟨rfl, hst⟩
  have hc := hst.1
  have hd := hst.2.1
  go_wp2_with fail
  have hcv := Hc.out
  simp only [T.eqv, toF] at hcv
  subst hcv
  refine ⟨_, results_tmp rfl _ _ _, ?_, hst.2.2⟩
  first | rfl | exact ret_bool (str_eq _ _) | exact ret_bool (by simp [Bool.eq_iff_iff])
 go_wp2_with fail
 have hcv := Hc.out
 have hz : T.eqv (.str s) t = false := by cases t <;> first | (simp [T.eqv]; done) | (simp [T.isFlt] at hxflt; done) | (simp [T.isInt] at hxint; done) | (simp [T.isStr] at hxstr; done)
 rw [hz] at hcv
 subst hcv
 exact ⟨_, results_tmp rfl _ _ _, rfl, hst.2.2⟩

end Go.Proofs.YtbicoknghdgahaaGreat

namespace Go.Proofs.YtbicoknghdgahaaGreat
open Go.RowKit
attribute [local go_sem] run_store_float run_load_k meth_IsNull meth_IsFloat meth_IsInt meth_IsString meth_IsBool meth_IsList meth_IsMap meth_AsFloat meth_AsInt meth_AsString meth_AsBool

attribute [local go_sem] T.isNull T.isFlt T.isInt T.isStr T.isBool T.isList T.isMap

set_option maxRecDepth 100000 in
set_option maxHeartbeats 4000000 in
theorem equalsBool (b : Bool) {F G : Nat → Prop} {t : T} {v1 v2 : Value} {w : World} (pa : Addr) (h1 : ValAt F w (.bool b) v1) (h2 : ValAt G w t v2) (hF : ∀ b, F b → b < w.heap.size) (hG : ∀ b, G b → b < w.heap.size) :
  Calls Tryz.prog 199 #[.iface 303 (.pointer (some pa)), v1, v2] w (EqPost (T.eqv (.bool b) t) w) := by
 obtain ⟨p, u, rfl, hp, hB, hu⟩ := h1
 obtain ⟨q, v, rfl, hq, hC, hv⟩ := h2
 have hpl := hF p hp
 have hql := hG q hq
 have hc := hB.cell 0
 have hd := hC.cell 0
 simp at hc hd
 clear hB hC hF hG hp hq
 have hst : St2 w p q u v w := ⟨hc, hd, Below.refl _ _⟩
 obtain ⟨c, hcv⟩ : ∃ c, T.eqv (.bool b) t = c := ⟨_, rfl⟩
 rw [hcv]
 have Hc := hide hcv
 clear hcv
 have Hu := hide hu
 have Hv := hide hv
 clear hv
 cases hu
 go_enter_defers Tryz.func199, Tryz.ntmps199
 go_wp2_with fail
 refine (St2.call hst hpl hql (IsFloat_calls Hu.out _)).mono ?_
 rintro e w1 ⟨rfl, hst⟩
 have hc := hst.1
 have hd := hst.2.1
 go_wp2_with fail
 refine (St2.call hst hpl hql (IsFloat_calls Hv.out _)).mono ?_
 rintro e w1 ⟨rfl, hst⟩
 have hc := hst.1
 have hd := hst.2.1
 cases hxflt : t.isFlt
 rotate_left
 ·skip
  obtain ⟨f', rfl, rfl⟩ := form_flt Hv.out hxflt
  go_wp2_with fail
  refine (St2.call hst hpl hql (IsFloat_calls Hu.out _)).mono ?_
  rintro e w1 ⟨rfl, hst⟩
  have hc := hst.1
  have hd := hst.2.1
  go_wp2_with fail
  refine (St2.call hst hpl hql (IsInt_calls Hu.out _)).mono ?_
  rintro e w1 ⟨rfl, hst⟩
  have hc := hst.1
  have hd := hst.2.1
  go_wp2_with fail
  have hcv := Hc.out
  have hz : T.eqv (.bool b) (.flt f') = false := by first | (simp [T.eqv]; done) 
  rw [hz] at hcv
  subst hcv
  exact ⟨_, results_tmp rfl _ _ _, rfl, hst.2.2⟩
 go_wp2_with fail
 refine (St2.call hst hpl hql (IsInt_calls Hu.out _)).mono ?_
 rintro e w1 ⟨rfl, hst⟩
 have hc := hst.1
 have hd := hst.2.1
 go_wp2_with fail
 refine (St2.call hst hpl hql (IsInt_calls Hv.out _)).mono ?_
 rintro e w1 ⟨rfl, hst⟩
 have hc := hst.1
 have hd := hst.2.1
 cases hxint : t.isInt
 rotate_left
 ·skip
  go_wp2_with fail
  have hcv := Hc.out
  have hz : T.eqv (.bool b) t = false := by cases t <;> first | (simp [T.eqv]; done) | (simp [T.isInt] at hxint; done)
  rw [hz] at hcv
  subst hcv
  exact ⟨_, results_tmp rfl _ _ _, rfl, hst.2.2⟩
 go_wp2_with fail
 refine (St2.call hst hpl hql (IsString_calls Hu.out _)).mono ?_
 rintro e w1 ⟨rfl, hst⟩
 have hc := hst.1
 have hd := hst.2.1
 go_wp2_with fail
 refine (St2.call hst hpl hql (IsString_calls Hv.out _)).mono ?_
 rintro e w1 ⟨rfl, hst⟩
 have hc := hst.1
 have hd := hst.2.1
 cases hxstr : t.isStr
 rotate_left
 ·skip
  go_wp2_with fail
  have hcv := Hc.out
  have hz : T.eqv (.bool b) t = false := by cases t <;> first | (simp [T.eqv]; done) | (simp [T.isStr] at hxstr; done)
  rw [hz] at hcv
  subst hcv
  exact ⟨_, results_tmp rfl _ _ _, rfl, hst.2.2⟩
 go_wp2_with fail
 refine (St2.call hst hpl hql (IsBool_calls Hu.out _)).mono ?_
 rintro e w1 ⟨rfl, hst⟩
 have hc := hst.1
 have hd := hst.2.1
 go_wp2_with fail
 refine (St2.call hst hpl hql (IsBool_calls Hv.out _)).mono ?_
 rintro e w1 ⟨rfl, hst⟩
 have hc := hst.1
 have hd := hst.2.1
 cases hxbool : t.isBool
 rotate_left
 ·skip
  obtain ⟨b', rfl, rfl⟩ := form_bool Hv.out hxbool
  go_wp2_with fail
  refine (St2.call hst hpl hql (AsBool_calls _ _)).mono ?_
  rintro e w1 ⟨rfl, hst⟩
  have hc := hst.1
  have hd := hst.2.1
  go_wp2_with fail
  refine (St2.call hst hpl hql (AsBool_calls _ _)).mono ?_
  rintro e w1 ⟨rfl, hst⟩
  have hc := hst.1
  have hd := hst.2.1
  go_wp2_with fail
  have hcv := Hc.out
  simp only [T.eqv, toF] at hcv
  subst hcv
  refine ⟨_, results_tmp rfl _ _ _, ?_, hst.2.2⟩
  first | rfl | exact ret_bool (str_eq _ _) | exact ret_bool (by simp [Bool.eq_iff_iff])
 go_wp2_with fail
 have hcv := Hc.out
 have hz : T.eqv (.bool b) t = false := by cases t <;> first | (simp [T.eqv]; done) | (simp [T.isFlt] at hxflt; done) | (simp [T.isInt] at hxint; done) | (simp [T.isStr] at hxstr; done) | (simp [T.isBool] at hxbool; done)
 rw [hz] at hcv
 subst hcv
 exact ⟨_, results_tmp rfl _ _ _, rfl, hst.2.2⟩

end Go.Proofs.YtbicoknghdgahaaGreat
