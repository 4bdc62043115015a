/-
  value.ListEqualsUsing, where the items' equalities are known.
-/
import Derived.Test.YtajeghkjppkhcaaCmpC
import Derived.Test.YtajeghkjppkhcaaCz
set_option linter.unusedVariables false
set_option linter.unusedSimpArgs false
namespace Go.Proofs.Ytajeghkjppkhcaa
open Go.RowKit
theorem meth_LLength (n : Nat) (v : Value) (w : World) : (method (n + 1) 148 v "Length").run Try.prog w = .ok (90, v) w := by kernel_rfl
theorem meth_LEqualsUsing (n : Nat) (v : Value) (w : World) : (method (n + 1) 148 v "EqualsUsing").run Try.prog w = .ok (89, v) w := by kernel_rfl
theorem meth_PLength (n : Nat) (a : Addr) (w : World) : (method (n + 1) 172 (.pointer (some a)) "Length").run Try.prog w = (Sem.load .plain a fun v => .pure (90, v)).run Try.prog w := by kernel_rfl
theorem meth_PRangeUsing (n : Nat) (a : Addr) (w : World) : (method (n + 1) 172 (.pointer (some a)) "RangeUsing").run Try.prog w = (Sem.load .plain a fun v => .pure (92, v)).run Try.prog w := by kernel_rfl
attribute [local go_sem] run_store_float run_load_k meth_RangeUsing meth_Next meth_Item meth_emptyNext meth_Free meth_LLength meth_PLength meth_PRangeUsing

theorem listLength_calls (A : Option Addr) (n c : Nat) (w : World) : Calls Try.prog 90 #[.slice A n c] w fun e w' => e = .returned (.int .i64 (n : Int)) ∧ w = w' := by
  go_enter Try.func90, Try.ntmps90
  go_wp2
  go_ret
  exact ⟨rfl, rfl⟩

theorem eqvL_len {l1 l2 : List T} (h : l1.length ≠ l2.length) : T.eqvL l1 l2 = false := by
  induction l1 generalizing l2 with
  | nil => cases l2 with
    | nil => exact absurd rfl h
    | cons b l2 => rw [T.eqvL]; all_goals simp
  | cons a l1 ih => cases l2 with
    | nil => rw [T.eqvL]; all_goals simp
    | cons b l2 =>
      rw [T.eqvL, ih (by simpa using h), Bool.and_false]

def LEInv (w : World) (s1 s2 : Value) (l1 l2 : List T) (c : Bool) (wr : World) : Prop := ∃ k : Nat, k ≤ l1.length ∧ T.eqvL (l1.drop k) (l2.drop k) = c ∧ LC w s1 s2 ((k : Int) - 1) ((k : Int) - 1) wr

set_option maxRecDepth 100000 in
set_option maxHeartbeats 1000000 in
theorem listEquals_lenP (l1 l2 : List T) (gp : Nat) (A1 A2 : Option Addr) (c1 c2 : Nat) (pa : Addr) (w : World) (hne : l1.length ≠ l2.length) (hp : Bk w gp 148 #[.slice A1 l1.length c1]) :
    Calls Try.prog 93 #[.iface 72 (.pointer (some pa)), .iface 172 (.pointer (some ⟨gp, 0, none⟩)), .iface 148 (.slice A2 l2.length c2)] w (EqPost (T.eqvL l1 l2) w) := by
  have hi : ¬ (l1.length : Int) = (l2.length : Int) := by omega
  rw [eqvL_len hne]
  have qp := hp.cell 0
  simp at qp
  go_enter_defers Try.func93, Try.ntmps93
  go_wp2_with fail
  refine (listLength_calls _ _ _ _).mono ?_
  rintro e w1 ⟨rfl, rfl⟩
  go_wp2_with fail
  refine (listLength_calls _ _ _ _).mono ?_
  rintro e w1 ⟨rfl, rfl⟩
  go_wp2_with fail
  exact ⟨_, results_tmp rfl _ _ _, rfl, Below.refl _ _⟩

set_option maxRecDepth 100000 in
set_option maxHeartbeats 1000000 in
theorem listEquals_noneP (gp : Nat) (A1 A2 : Option Addr) (c1 c2 : Nat) (pa : Addr) (w : World) (hp : Bk w gp 148 #[.slice A1 0 c1]) :
    Calls Try.prog 93 #[.iface 72 (.pointer (some pa)), .iface 172 (.pointer (some ⟨gp, 0, none⟩)), .iface 148 (.slice A2 0 c2)] w (EqPost true w) := by
  have qp := hp.cell 0
  simp at qp
  go_enter_defers Try.func93, Try.ntmps93
  go_wp2_with fail
  refine (listLength_calls _ _ _ _).mono ?_
  rintro e w1 ⟨rfl, rfl⟩
  go_wp2_with fail
  refine (listLength_calls _ _ _ _).mono ?_
  rintro e w1 ⟨rfl, rfl⟩
  go_wp2_with fail
  refine (rangeUsing_empty _ _ _ _).mono ?_
  rintro e w1 ⟨rfl, rfl⟩
  go_wp2_with fail
  refine (rangeUsing_empty _ _ _ _).mono ?_
  rintro e w2 ⟨rfl, rfl⟩
  go_wp2_with fail
  generalize hW : World.alloc _ _ = W
  have hbw : Below w.heap.size w W := by rw [← hW]; exact ((Below.refl _ _).alloc (Nat.le_refl _) _).alloc (by simp) _
  have HW := hide hW
  have Hbw := hide hbw
  clear hW hbw
  go_loopw [9] (fun _ wr => W = wr) (fun _ _ => 0)
  case atStart => rfl
  case round =>
    subst hrel
    go_wp2_with fail
    refine (emptyNext_calls _ _).mono ?_
    rintro e W1 ⟨rfl, rfl⟩
    go_wp2_with fail
    refine leaves_cons (f := 68) (args := #[.pointer (some pa), .iface 173 (.pointer (some ⟨w.heap.size + 1, 0, none⟩))]) (by simp) (by simp [go_sem, meth_Free]) ?_
    refine (free_deferred pa _ .returning _).mono ?_
    rintro e u' w' ⟨rfl, rfl, rfl⟩
    refine leaves_cons (f := 68) (args := #[.pointer (some pa), .iface 173 (.pointer (some ⟨w.heap.size, 0, none⟩))]) (by simp [settle]) (by simp [go_sem, meth_Free]) ?_
    refine (free_deferred pa _ .returning _).mono ?_
    rintro e u' w' ⟨rfl, rfl, rfl⟩
    exact ⟨_, results_tmp rfl _ _ _, rfl, Hbw.out⟩

set_option maxRecDepth 100000 in
set_option maxHeartbeats 2000000 in
theorem listEquals_bothP (l1 l2 : List T) (hok : ∀ a ∈ l1, ∀ b ∈ l2, EqvOK a b) (gp : Nat) (A1 A2 : Option Addr) (c1 c2 : Nat) (xs1 xs2 : List Value) (pa : Addr) (w : World) (hn1 : 0 < l1.length) (hn2 : l1.length = l2.length) (hb1 : l1.length * 88 ≤ R47)
    (hr1 : Row (Old w) w 1 A1 l1.length xs1) (hr2 : Row (Old w) w 1 A2 l2.length xs2) (hx1 : AnysAt (Old w) w l1 xs1) (hx2 : AnysAt (Old w) w l2 xs2) (hp : Bk w gp 148 #[.slice A1 l1.length c1]) :
    Calls Try.prog 93 #[.iface 72 (.pointer (some pa)), .iface 172 (.pointer (some ⟨gp, 0, none⟩)), .iface 148 (.slice A2 l2.length c2)] w (EqPost (T.eqvL l1 l2) w) := by
  have hlb1 : l1.length ≤ 8796093022208 := by unfold R47 at hb1; omega
  have hlb2 : l2.length ≤ 8796093022208 := by unfold R47 at hb1; omega
  obtain ⟨c, hcv⟩ : ∃ c, T.eqvL l1 l2 = c := ⟨_, rfl⟩
  rw [hcv]
  have Hc := hide hcv
  have Hok := hide hok
  have HR1 := hide hr1
  have HR2 := hide hr2
  have HX1 := hide hx1
  have HX2 := hide hx2
  have hll : (l1.length : Int) = (l2.length : Int) := by omega
  have Hll := hide hn2
  have qp := hp.cell 0
  simp at qp
  clear hcv hok hr1 hr2 hx1 hx2 hb1 hn2
  go_enter_defers Try.func93, Try.ntmps93
  go_wp2_with fail
  refine (listLength_calls _ _ _ _).mono ?_
  rintro e w1 ⟨rfl, rfl⟩
  go_wp2_with fail
  refine (listLength_calls _ _ _ _).mono ?_
  rintro e w1 ⟨rfl, rfl⟩
  go_wp2_with fail
  clear hll
  refine (rangeUsing_calls _ _ _ hn1 _ _).mono ?_
  rintro e w1 ⟨rfl, rfl⟩
  go_wp2_with fail
  refine (rangeUsing_calls _ _ _ (by rw [← Hll.out]; exact hn1) _ _).mono ?_
  rintro e w2 ⟨rfl, rfl⟩
  go_wp2_with fail
  go_loopw [9] (fun _ wr => LEInv w (.slice A1 l1.length c1) (.slice A2 l2.length c2) l1 l2 c wr) (fun _ wr => LCMes w l1.length wr)
  case atStart =>
    obtain ⟨_, _, _, _, hst⟩ := lc_start w (.slice A1 l1.length c1) (.slice A2 l2.length c2) [] []
    obtain ⟨k, hk, _, _, hst⟩ := lc_start w (.slice A1 l1.length c1) (.slice A2 l2.length c2) [] []
    have hk0 : k = 0 := by simpa using hk
    subst hk0
    exact ⟨0, Nat.zero_le _, by simpa using Hc.out, hst⟩
  case round =>
    obtain ⟨k, hk1, hcmp, st⟩ := hrel
    have Hcmp := hide hcmp
    have Hst := hide st
    clear hcmp st
    go_wp2_with fail
    refine (next_k _ _ _ _ _ k _ (by omega) Hst.out.r1).mono ?_
    rintro e W1 ⟨rfl, m1, hW1⟩
    have Hst1 := hide (Hst.out.next1 (k : Int) m1)
    rw [hW1] at Hst1
    clear hW1
    by_cases h1 : k < l1.length
    · have hd1 : decide (k < l1.length) = true := by simpa using h1
      rw [hd1]
      have h2 : k < l2.length := by rw [← Hll.out]; exact h1
      go_wp2_with fail
      refine (next_k _ _ _ _ _ k _ (by omega) Hst1.out.r2).mono ?_
      rintro e W2 ⟨rfl, m2, hW2⟩
      have Hst2 := hide (Hst1.out.next2 (k : Int) m2)
      rw [hW2] at Hst2
      clear hW2
      have hd2 : decide (k < l2.length) = true := by simpa using h2
      rw [hd2]
      obtain ⟨u1, hu1⟩ : ∃ u, xs1[k]? = some u := ⟨_, List.getElem?_eq_getElem (by have := HR1.out.1; omega)⟩
      obtain ⟨u2, hu2⟩ : ∃ u, xs2[k]? = some u := ⟨_, List.getElem?_eq_getElem (by have := HR2.out.1; omega)⟩
      have ha1 := HX1.out k l1[k] u1 (List.getElem?_eq_getElem h1) hu1
      have ha2 := HX2.out k l2[k] u2 (List.getElem?_eq_getElem h2) hu2
      obtain ⟨b1, o1, rfl, hF1, hc1⟩ := row1_at HR1.out h1 hu1
      obtain ⟨b2, o2, rfl, hF2, hc2⟩ := row1_at HR2.out h2 hu2
      have hok := Hok.out l1[k] (List.getElem_mem h1) l2[k] (List.getElem_mem h2)
      have hcs : T.eqvL (l1.drop k) (l2.drop k) = (T.eqv l1[k] l2[k] && T.eqvL (l1.drop (k + 1)) (l2.drop (k + 1))) := by
        rw [List.drop_eq_getElem_cons h1, List.drop_eq_getElem_cons h2, T.eqvL]
      generalize l1[k] = t1 at ha1 hok hcs
      generalize l2[k] = t2 at ha2 hok hcs
      have Hh := hide (And.intro (And.intro ha1 ha2) (And.intro hok hcs))
      have Hcell := hide (And.intro hc1 hc2)
      clear ha1 ha2 hok hcs hu1 hu2 hc1 hc2 hd1 hd2
      obtain ⟨x1, hx1⟩ := Hst2.out.v1
      have Hx1 := hide hx1
      clear hx1
      go_wp2_with fail
      refine (item_calls (w.heap.size + 1) w.heap.size x1 b1 o1 _ _ k h1 (by omega) Hh.out.1.1 W2 Hst2.out.r1 Hx1.out (((bcell Hst2.out.below).1 _ _ hF1).trans Hcell.out.1) (by omega) (Nat.ne_of_lt hF1)).mono ?_
      rintro e W3 ⟨rfl, n1, n2, hW3⟩
      have Hst3 := hide (Hst2.out.item1 u1 n1 n2)
      rw [hW3] at Hst3
      clear hW3
      obtain ⟨x2, hx2⟩ := Hst3.out.1.v2
      have Hx2 := hide hx2
      clear hx2
      go_wp2_with fail
      refine (item_calls (w.heap.size + 3) (w.heap.size + 2) x2 b2 o2 _ _ k h2 (by omega) Hh.out.1.2 W3 Hst3.out.1.r2 Hx2.out (((bcell Hst3.out.1.below).1 _ _ hF2).trans Hcell.out.2) (by omega) (by have : b2 < w.heap.size := hF2; omega)).mono ?_
      rintro e W4 ⟨rfl, n3, n4, hW4⟩
      have Hst4 := hide (Hst3.out.1.item2 Hst3.out.2 u2 n3 n4)
      rw [hW4] at Hst4
      clear hW4
      go_wp2_with fail
      obtain ⟨d, hd⟩ : ∃ d, T.eqv t1 t2 = d := ⟨_, rfl⟩
      have hcall := Hh.out.2.1 W4 pa (.iface 77 (.pointer (some ⟨w.heap.size, 0, none⟩))) (.iface 77 (.pointer (some ⟨w.heap.size + 2, 0, none⟩)))
        ⟨w.heap.size, u1, rfl, Hst4.out.2.1.lt, Hst4.out.2.1, (Hh.out.1.1.keeps (Keeps.below Hst4.out.1.below fun _ hx => hx)).mono fun _ hx => Nat.lt_of_lt_of_le hx Hst4.out.1.below.size⟩
        ⟨w.heap.size + 2, u2, rfl, Hst4.out.2.2.lt, Hst4.out.2.2, (Hh.out.1.2.keeps (Keeps.below Hst4.out.1.below fun _ hx => hx)).mono fun _ hx => Nat.lt_of_lt_of_le hx Hst4.out.1.below.size⟩
      rw [hd] at hcall
      refine hcall.mono ?_
      have Hd := hide hd
      clear hcall hd
      rintro e W5 ⟨rfl, hb5⟩
      have Hst5 := hide (Hst4.out.1.calls hb5)
      clear hb5
      cases d
      · go_wp2_with fail
        refine leaves_cons (f := 68) (args := #[.pointer (some pa), .iface 175 (.pointer (some ⟨w.heap.size + 1 + 1 + 1, 0, none⟩))]) (by simp) (by simp [go_sem, meth_Free]) ?_
        refine (free_deferred pa _ .returning _).mono ?_
        rintro e u' w' ⟨rfl, rfl, rfl⟩
        refine leaves_cons (f := 68) (args := #[.pointer (some pa), .iface 175 (.pointer (some ⟨w.heap.size + 1, 0, none⟩))]) (by simp [settle]) (by simp [go_sem, meth_Free]) ?_
        refine (free_deferred pa _ .returning _).mono ?_
        rintro e u' w' ⟨rfl, rfl, rfl⟩
        have hcv := Hcmp.out
        rw [Hh.out.2.2, Hd.out, Bool.false_and] at hcv
        subst hcv
        exact ⟨_, results_tmp rfl _ _ _, rfl, Hst5.out.below⟩
      · go_wp2_with fail
        have hcv := Hcmp.out
        rw [Hh.out.2.2, Hd.out, Bool.true_and] at hcv
        have e : (((k + 1 : Nat) : Int) - 1) = (k : Int) := by omega
        refine ⟨⟨k + 1, h1, hcv, by rw [e]; exact Hst5.out⟩, ?_⟩
        rw [LCMes_at Hst5.out, LCMes_at Hst.out]
        omega
    · have hd1 : decide (k < l1.length) = false := by simpa using h1
      rw [hd1]
      clear hd1
      go_wp2_with fail
      refine leaves_cons (f := 68) (args := #[.pointer (some pa), .iface 175 (.pointer (some ⟨w.heap.size + 1 + 1 + 1, 0, none⟩))]) (by simp) (by simp [go_sem, meth_Free]) ?_
      refine (free_deferred pa _ .returning _).mono ?_
      rintro e u' w' ⟨rfl, rfl, rfl⟩
      refine leaves_cons (f := 68) (args := #[.pointer (some pa), .iface 175 (.pointer (some ⟨w.heap.size + 1, 0, none⟩))]) (by simp [settle]) (by simp [go_sem, meth_Free]) ?_
      refine (free_deferred pa _ .returning _).mono ?_
      rintro e u' w' ⟨rfl, rfl, rfl⟩
      have hcv := Hcmp.out
      rw [List.drop_of_length_le (by omega), List.drop_of_length_le (by have := Hll.out; omega), T.eqvL] at hcv
      subst hcv
      exact ⟨_, results_tmp rfl _ _ _, rfl, Hst1.out.below⟩

theorem listEquals_callsP (l1 l2 : List T) (hok : ∀ a ∈ l1, ∀ b ∈ l2, EqvOK a b) (gp : Nat) (A1 A2 : Option Addr) (c1 c2 : Nat) (xs1 xs2 : List Value) (pa : Addr) (w : World) (hb1 : l1.length * 88 ≤ R47)
    (hr1 : Row (Old w) w 1 A1 l1.length xs1) (hr2 : Row (Old w) w 1 A2 l2.length xs2) (hx1 : AnysAt (Old w) w l1 xs1) (hx2 : AnysAt (Old w) w l2 xs2) (hp : Bk w gp 148 #[.slice A1 l1.length c1]) :
    Calls Try.prog 93 #[.iface 72 (.pointer (some pa)), .iface 172 (.pointer (some ⟨gp, 0, none⟩)), .iface 148 (.slice A2 l2.length c2)] w (EqPost (T.eqvL l1 l2) w) := by
  by_cases hl : l1.length = l2.length
  · cases l1 with
    | nil =>
      cases l2 with
      | nil => rw [T.eqvL]; exact listEquals_noneP gp A1 A2 c1 c2 pa w hp
      | cons b l2 => exact absurd hl (by simp)
    | cons a l1 => exact listEquals_bothP _ _ hok gp A1 A2 c1 c2 xs1 xs2 pa w (by simp) hl hb1 hr1 hr2 hx1 hx2 hp
  · exact listEquals_lenP l1 l2 gp A1 A2 c1 c2 pa w hl hp

end Go.Proofs.Ytajeghkjppkhcaa
