/- Parts: SetEq, MngEq. -/
import Derived.Test.YtbicoknghdgahaaGreatSA05
set_option linter.unusedVariables false
set_option linter.unusedSimpArgs false
namespace Go.Proofs.YtbicoknghdgahaaGreat
open Go.RowKit
attribute [local go_sem] run_store_float

theorem eqE_peqv : ∀ (l m : List E), eqE l m = peqv l m
 | [], [] => rfl
 | [], _ :: _ => rfl
 | _ :: _, [] => rfl
 | a :: l, b :: m => by rw [eqE, peqv, eqE_peqv l m]
theorem eqK_len {u : St → St → Bool} : ∀ {l m : List (E × St)}, l.length ≠ m.length → eqS.eqK u l m = false
 | [], [], h => absurd rfl h
 | [], _ :: _, _ => rfl
 | _ :: _, [], _ => rfl
 | a :: l, b :: m, h => by rw [eqS.eqK, eqK_len (fun e => h (by simp [e])), Bool.and_false]
theorem eqK_drop {u : St → St → Bool} {l m : List (E × St)} {k : Nat} (h1 : k < l.length) (h2 : k < m.length) : eqS.eqK u (l.drop k) (m.drop k) = (E.eqv (l[k]).1 (m[k]).1 && u (l[k]).2 (m[k]).2 && eqS.eqK u (l.drop (k + 1)) (m.drop (k + 1))) := by
 rw [List.drop_eq_getElem_cons h1, List.drop_eq_getElem_cons h2, eqS.eqK]

def SEKInv (u : St → St → Bool) (w : World) (m m' : List (E × St)) (s : Value) (W : World) : Prop := ∃ k : Nat, s = .int .i64 (k : Int) ∧ k ≤ m.length ∧ eqS.eqK u m m' = eqS.eqK u (m.drop k) (m'.drop k) ∧ Below w.heap.size w W


set_option maxRecDepth 100000 in
set_option maxHeartbeats 8000000 in
theorem esEquals_calls {w : World} {g g' : Nat} {m m' : List E} {MA MB : Option Addr} {mc md : Nat} {xs ys : List Value} (hg : g < w.heap.size) (hg' : g' < w.heap.size) (m0 : w.cell? ⟨g, 0, none⟩ = some (.slice MA m.length mc)) (n0 : w.cell? ⟨g', 0, none⟩ = some (.slice MB m'.length md))
  (hr : Row (Old w) w 4 MA m.length xs) (hr' : Row (Old w) w 4 MB m'.length ys) (hx : Cells 4 (PEAt (Old w) w) m xs) (hy : Cells 4 (PEAt (Old w) w) m' ys) (h47 : m.length * 32 ≤ R47) :
  Calls Tryz.prog 159 #[.pointer (some ⟨g, 0, none⟩), .pointer (some ⟨g', 0, none⟩)] w (EqPost (eqE m m') w) := by
 rw [eqE_peqv]
 have h47' : m.length * 32 ≤ 140737488351232 := h47
 by_cases hlen : m.length = m'.length
 case neg =>
  rw [peqv_len hlen]
  have hli : ¬ (m.length : Int) = (m'.length : Int) := by omega
  have hlb : ((m.length : Int) == (m'.length : Int)) = false := beq_eq_false_iff_ne.2 hli
  have hlb2 : ((m.length : Int) != (m'.length : Int)) = true := by simp [bne, hlb]
  clear hr hr' hx hy hlen
  generalize m.length = M at *
  generalize m'.length = M1 at *
  go_enter Tryz.func159, Tryz.ntmps159
  go_wp2_with fail
  go_quiet (fail)
  go_wp2
  go_ret
  exact ⟨rfl, below_drewN (Below.refl _ _) _⟩
 obtain ⟨n, hn⟩ : ∃ n, m.length = n := ⟨_, rfl⟩
 have hn' : m'.length = n := by omega
 obtain ⟨r, hrr⟩ : ∃ r, peqv m m' = r := ⟨_, rfl⟩
 rw [hrr]
 rw [hn] at m0 hr h47'
 rw [hn'] at n0 hr'
 have Hr := hide (And.intro hrr (And.intro hn hn'))
 have H7 := hide (And.intro hr (And.intro hx (And.intro hr' (And.intro hy (And.intro hg (And.intro hg' (And.intro m0 n0)))))))
 skip
 clear hr hr' hx hy hrr hn hn' hlen h47
 have hbeq : ((n : Int) != (n : Int)) = false := by simp
 go_enter Tryz.func159, Tryz.ntmps159
 go_wp2_with fail
 go_quiet (fail)
 generalize hw0 : World.drewN w _ = w0
 have hbw0 : Below w.heap.size w w0 := by rw [← hw0]; exact below_drewN (Below.refl _ _) _
 have m0' := ((bcell hbw0).1 _ _ hg).trans m0
 have n0' := ((bcell hbw0).1 _ _ hg').trans n0
 have Hw0 := hide hbw0
 clear hw0 hbw0 m0 n0
 go_wp2_with fail
 go_loopw [22] (fun s W => PQInv w m m' s W) (fun s _ => n - (intOf s).toNat)
 case atStart => exact ⟨0, rfl, Nat.zero_le _, by simp, Hw0.out⟩
 case round =>
  clear m0' n0'
  obtain ⟨k, rfl, hk1, heq, hb⟩ := hrel
  rw [Hr.out.2.1] at hk1
  have hki0 : (0 : Int) ≤ (k : Int) := Int.natCast_nonneg _
  by_cases hp : k < n
  ·have hpi : (k : Int) < (n : Int) := by omega
   have hp1 : k < m.length := by rw [Hr.out.2.1]; exact hp
   have hq1 : k < m'.length := by rw [Hr.out.2.2]; exact hp
   have hx := H7.out.2.1.at_ hp1
   have hy := H7.out.2.2.2.1.at_ hq1
   have hrd := peqv_round heq hp1 hq1
   generalize m[k] = x at *
   generalize m'[k] = y at *
   generalize hcs : (xs.drop (k * 4)).take 4 = fcs at hx
   generalize hds : (ys.drop (k * 4)).take 4 = gcs at hy
   obtain ⟨p0, p1, p2, p3, rfl⟩ := hx.form
   obtain ⟨q0, q1, q2, q3, rfl⟩ := hy.form
   obtain ⟨rb, ro, rfl, hF, hc⟩ := rown_at H7.out.1 hp hcs
   obtain ⟨sb, so, rfl, hG, hd⟩ := rown_at H7.out.2.2.1 hp hds
   have HR := hide (And.intro (show rb < w.heap.size from hF) (And.intro (show sb < w.heap.size from hG) (And.intro hc hd)))
   have ec := (bcell hb).1
   have a0 := (ec _ _ H7.out.2.2.2.2.1).trans H7.out.2.2.2.2.2.2.1
   have b0 := (ec _ _ H7.out.2.2.2.2.2.1).trans H7.out.2.2.2.2.2.2.2
   have c0 := (ec _ _ HR.out.1).trans (HR.out.2.2.1 0 _ rfl)
   have c1 := (ec _ _ HR.out.1).trans (HR.out.2.2.1 1 _ rfl)
   have c2 := (ec _ _ HR.out.1).trans (HR.out.2.2.1 2 _ rfl)
   have c3 := (ec _ _ HR.out.1).trans (HR.out.2.2.1 3 _ rfl)
   have d0 := (ec _ _ HR.out.2.1).trans (HR.out.2.2.2 0 _ rfl)
   have d1 := (ec _ _ HR.out.2.1).trans (HR.out.2.2.2 1 _ rfl)
   have d2 := (ec _ _ HR.out.2.1).trans (HR.out.2.2.2 2 _ rfl)
   have d3 := (ec _ _ HR.out.2.1).trans (HR.out.2.2.2 3 _ rfl)
   rw [Nat.add_zero] at c0 d0
   obtain ⟨v, hv⟩ : ∃ v, E.eqv x y = v := ⟨_, rfl⟩
   have HC := hide fun (W : World) (hb : Below w.heap.size w W) => peEquals_calls (hx.at_ hb) (hy.at_ hb)
   rw [hv] at HC hrd
   rw [Hr.out.1] at hrd
   have Hrd := hide hrd
   have Hb := hide hb
   clear hb hx hy hcs hds hc hd ec hF hG hrd heq hv hp1 hq1 hk1
   go_wp2_with fail
   go_still_tail 14, (by kernel_rfl)
   change wpList _ _ _ _ _ wr.drew
   go_wp2_with fail
   refine (HC.out wr.drew (below_drew Hb.out)).mono ?_
   rintro e w1 ⟨rfl, hb1⟩
   have hb1' := Hb.out.trans ((below_drew' hb1).mono Hb.out.size)
   have H1 := hide hb1'
   clear hb1 hb1' a0 b0 c0 c1 c2 c3 d0 d1 d2 d3 HC
   cases v
   ·have hs := Hrd.out.2 rfl
    subst hs
    clear Hrd
    go_wp2
    go_ret
    exact ⟨rfl, H1.out⟩
   ·have hs := Hrd.out.1 rfl
    have Hs := hide (Hr.out.1.trans hs)
    clear hs Hrd
    go_wp2_with fail
    exact ⟨⟨k + 1, by go_num, by rw [Hr.out.2.1]; omega, Hs.out, H1.out⟩, by simp [intOf]; omega⟩
  ·have hpi : ¬ (k : Int) < (n : Int) := by omega
   have hr1 : r = true := by
    rw [Hr.out.1] at heq
    rw [List.drop_eq_nil_of_le (by rw [Hr.out.2.1]; omega), List.drop_eq_nil_of_le (by rw [Hr.out.2.2]; omega)] at heq
    exact heq
   subst hr1
   have Hb := hide hb
   clear hb heq hk1
   go_wp2
   go_ret
   exact ⟨rfl, Hb.out⟩

set_option maxRecDepth 100000 in
set_option maxHeartbeats 8000000 in
theorem nmEquals_calls {u : St → St → Bool} {P P' : St → Prop} (IH : ∀ {W : World} {ga gb : Nat} {s t : St}, SetR (Old W) W ga s → SetR (Old W) W gb t → P s → P' t → Calls Tryz.prog 104 #[.pointer (some ⟨ga, 0, none⟩), .pointer (some ⟨gb, 0, none⟩)] W (EqPost (u s t) W))
  {w : World} {g g' : Nat} {m m' : List (E × St)} {MA MB : Option Addr} {mc md : Nat} {xs ys : List Value} (hP : ∀ k ∈ m, P k.2) (hP' : ∀ k ∈ m', P' k.2) (hg : g < w.heap.size) (hg' : g' < w.heap.size) (m0 : w.cell? ⟨g, 1, none⟩ = some (.slice MA m.length mc)) (n0 : w.cell? ⟨g', 1, none⟩ = some (.slice MB m'.length md))
  (hr : Row (Old w) w 5 MA m.length xs) (hr' : Row (Old w) w 5 MB m'.length ys) (hx : Cells 5 (KQ (Old w) w) m xs) (hy : Cells 5 (KQ (Old w) w) m' ys) (h47 : m.length * 40 ≤ R47) :
  Calls Tryz.prog 160 #[.pointer (some ⟨g, 1, none⟩), .pointer (some ⟨g', 1, none⟩)] w (EqPost (eqS.eqK u m m') w) := by
 have h47' : m.length * 40 ≤ 140737488351232 := h47
 by_cases hlen : m.length = m'.length
 case neg =>
  rw [eqK_len hlen]
  have hli : ¬ (m.length : Int) = (m'.length : Int) := by omega
  have hlb : ((m.length : Int) == (m'.length : Int)) = false := beq_eq_false_iff_ne.2 hli
  have hlb2 : ((m.length : Int) != (m'.length : Int)) = true := by simp [bne, hlb]
  clear hr hr' hx hy hlen hP hP' IH
  generalize m.length = M at *
  generalize m'.length = M1 at *
  go_enter Tryz.func160, Tryz.ntmps160
  go_wp2_with fail
  go_quiet (fail)
  go_wp2
  go_ret
  exact ⟨rfl, below_drewN (Below.refl _ _) _⟩
 obtain ⟨n, hn⟩ : ∃ n, m.length = n := ⟨_, rfl⟩
 have hn' : m'.length = n := by omega
 obtain ⟨r, hrr⟩ : ∃ r, eqS.eqK u m m' = r := ⟨_, rfl⟩
 rw [hrr]
 rw [hn] at m0 hr h47'
 rw [hn'] at n0 hr'
 have Hr := hide (And.intro hrr (And.intro hn hn'))
 have H7 := hide (And.intro hr (And.intro hx (And.intro hr' (And.intro hy (And.intro hg (And.intro hg' (And.intro m0 n0)))))))
 have HP := hide (And.intro hP hP')
 clear hr hr' hx hy hrr hn hn' hlen h47 hP hP'
 have hbeq : ((n : Int) != (n : Int)) = false := by simp
 go_enter Tryz.func160, Tryz.ntmps160
 go_wp2_with fail
 go_quiet (fail)
 generalize hw0 : World.drewN w _ = w0
 have hbw0 : Below w.heap.size w w0 := by rw [← hw0]; exact below_drewN (Below.refl _ _) _
 have m0' := ((bcell hbw0).1 _ _ hg).trans m0
 have n0' := ((bcell hbw0).1 _ _ hg').trans n0
 have Hw0 := hide hbw0
 clear hw0 hbw0 m0 n0
 go_wp2_with fail
 go_loopw [22] (fun s W => SEKInv u w m m' s W) (fun s _ => n - (intOf s).toNat)
 case atStart => exact ⟨0, rfl, Nat.zero_le _, by simp, Hw0.out⟩
 case round =>
  clear m0' n0'
  obtain ⟨k, rfl, hk1, heq, hb⟩ := hrel
  rw [Hr.out.2.1] at hk1
  have hki0 : (0 : Int) ≤ (k : Int) := Int.natCast_nonneg _
  by_cases hp : k < n
  ·have hpi : (k : Int) < (n : Int) := by omega
   have hp1 : k < m.length := by rw [Hr.out.2.1]; exact hp
   have hq1 : k < m'.length := by rw [Hr.out.2.2]; exact hp
   have hx := H7.out.2.1.at_ hp1
   have hy := H7.out.2.2.2.1.at_ hq1
   have hrd := heq.trans (eqK_drop (u := u) hp1 hq1)
   have hPa := HP.out.1 _ (List.getElem_mem hp1)
   have hPb := HP.out.2 _ (List.getElem_mem hq1)
   generalize m[k] = x at *
   generalize m'[k] = y at *
   generalize hcs : (xs.drop (k * 5)).take 5 = fcs at hx
   generalize hds : (ys.drop (k * 5)).take 5 = gcs at hy
   obtain ⟨p0, p1, p2, p3, pg, rfl, hxe, hxs⟩ := hx.form
   obtain ⟨q0, q1, q2, q3, qg, rfl, hye, hys⟩ := hy.form
   obtain ⟨rb, ro, rfl, hF, hc⟩ := rown_at H7.out.1 hp hcs
   obtain ⟨sb, so, rfl, hG, hd⟩ := rown_at H7.out.2.2.1 hp hds
   have HR := hide (And.intro (show rb < w.heap.size from hF) (And.intro (show sb < w.heap.size from hG) (And.intro hc hd)))
   have ec := (bcell hb).1
   have a0 := (ec _ _ H7.out.2.2.2.2.1).trans H7.out.2.2.2.2.2.2.1
   have b0 := (ec _ _ H7.out.2.2.2.2.2.1).trans H7.out.2.2.2.2.2.2.2
   have c0 := (ec _ _ HR.out.1).trans (HR.out.2.2.1 0 _ rfl)
   have c1 := (ec _ _ HR.out.1).trans (HR.out.2.2.1 1 _ rfl)
   have c2 := (ec _ _ HR.out.1).trans (HR.out.2.2.1 2 _ rfl)
   have c3 := (ec _ _ HR.out.1).trans (HR.out.2.2.1 3 _ rfl)
   have c4 := (ec _ _ HR.out.1).trans (HR.out.2.2.1 4 _ rfl)
   have d0 := (ec _ _ HR.out.2.1).trans (HR.out.2.2.2 0 _ rfl)
   have d1 := (ec _ _ HR.out.2.1).trans (HR.out.2.2.2 1 _ rfl)
   have d2 := (ec _ _ HR.out.2.1).trans (HR.out.2.2.2 2 _ rfl)
   have d3 := (ec _ _ HR.out.2.1).trans (HR.out.2.2.2 3 _ rfl)
   have d4 := (ec _ _ HR.out.2.1).trans (HR.out.2.2.2 4 _ rfl)
   rw [Nat.add_zero] at c0 d0
   obtain ⟨v, hv⟩ : ∃ v, E.eqv x.1 y.1 = v := ⟨_, rfl⟩
   obtain ⟨v2, hv2⟩ : ∃ v2, u x.2 y.2 = v2 := ⟨_, rfl⟩
   have HC := hide fun (W : World) (hb : Below w.heap.size w W) => peEquals_calls (hxe.at_ hb) (hye.at_ hb)
   have HU := hide fun (W : World) (hb : Below w.heap.size w W) => IH (hxs.at_ hb) (hys.at_ hb) hPa hPb
   rw [hv] at HC hrd
   rw [hv2] at HU hrd
   rw [Hr.out.1] at hrd
   have Hrd := hide hrd
   have Hb := hide hb
   clear hb hx hy hcs hds hc hd ec hF hG hrd heq hv hp1 hq1 hk1 hxe hye hxs hys hPa hPb hv2
   go_wp2_with fail
   go_still_tail 16, (by kernel_rfl)
   change wpList _ _ _ _ _ wr.drew
   go_wp2_with fail
   refine (HC.out wr.drew (below_drew Hb.out)).mono ?_
   rintro e w1 ⟨rfl, hb1⟩
   have hb1' := Hb.out.trans ((below_drew' hb1).mono Hb.out.size)
   have H1 := hide hb1'
   clear hb1 hb1' a0 b0 c0 c1 c2 c3 c4 d0 d1 d2 d3 d4 HC
   cases v
   ·have hs : r = false := by have := Hrd.out; simpa using this
    subst hs
    clear Hrd HU
    go_wp2
    go_ret
    exact ⟨rfl, H1.out⟩
   ·have ec := (bcell H1.out).1
    have a0 := (ec _ _ H7.out.2.2.2.2.1).trans H7.out.2.2.2.2.2.2.1
    have b0 := (ec _ _ H7.out.2.2.2.2.2.1).trans H7.out.2.2.2.2.2.2.2
    have c0 := (ec _ _ HR.out.1).trans (HR.out.2.2.1 0 _ rfl)
    have c1 := (ec _ _ HR.out.1).trans (HR.out.2.2.1 1 _ rfl)
    have c2 := (ec _ _ HR.out.1).trans (HR.out.2.2.1 2 _ rfl)
    have c3 := (ec _ _ HR.out.1).trans (HR.out.2.2.1 3 _ rfl)
    have c4 := (ec _ _ HR.out.1).trans (HR.out.2.2.1 4 _ rfl)
    have d0 := (ec _ _ HR.out.2.1).trans (HR.out.2.2.2 0 _ rfl)
    have d1 := (ec _ _ HR.out.2.1).trans (HR.out.2.2.2 1 _ rfl)
    have d2 := (ec _ _ HR.out.2.1).trans (HR.out.2.2.2 2 _ rfl)
    have d3 := (ec _ _ HR.out.2.1).trans (HR.out.2.2.2 3 _ rfl)
    have d4 := (ec _ _ HR.out.2.1).trans (HR.out.2.2.2 4 _ rfl)
    rw [Nat.add_zero] at c0 d0
    clear ec
    go_wp2_with fail
    go_still_tail 16, (by kernel_rfl)
    change wpList _ _ _ _ _ w1.drew
    go_wp2_with fail
    refine (HU.out w1.drew (below_drew H1.out)).mono ?_
    rintro e w2 ⟨rfl, hb2⟩
    have H2 := hide (H1.out.trans ((below_drew' hb2).mono H1.out.size))
    clear hb2 a0 b0 c0 c1 c2 c3 c4 d0 d1 d2 d3 d4 HU
    cases v2
    ·have hs : r = false := by have := Hrd.out; simpa using this
     subst hs
     clear Hrd
     go_wp2
     go_ret
     exact ⟨rfl, H2.out⟩
    ·have hs : r = eqS.eqK u (m.drop (k + 1)) (m'.drop (k + 1)) := by have := Hrd.out; simpa using this
     have Hs := hide (Hr.out.1.trans hs)
     clear hs Hrd
     go_wp2_with fail
     exact ⟨⟨k + 1, by go_num, by rw [Hr.out.2.1]; omega, Hs.out, H2.out⟩, by simp [intOf]; omega⟩
  ·have hpi : ¬ (k : Int) < (n : Int) := by omega
   have hr1 : r = true := by
    rw [Hr.out.1] at heq
    rw [List.drop_eq_nil_of_le (by rw [Hr.out.2.1]; omega), List.drop_eq_nil_of_le (by rw [Hr.out.2.2]; omega)] at heq
    exact heq
   subst hr1
   have Hb := hide hb
   clear hb heq hk1
   go_wp2
   go_ret
   exact ⟨rfl, Hb.out⟩

set_option maxRecDepth 100000 in
set_option maxHeartbeats 8000000 in
theorem setEquals_calls : ∀ {n : Nat} {w : World} {g g' : Nat} {s t : St}, SetR (Old w) w g s → SetR (Old w) w g' t → s.Ht n → t.Ht n →
  Calls Tryz.prog 104 #[.pointer (some ⟨g, 0, none⟩), .pointer (some ⟨g', 0, none⟩)] w (EqPost (eqS n s t) w)
 | 0, _, _, _, _, _, _, _, hn, _ => by cases hn
 | n + 1, w, g, g', .mk m ks, .mk m' ks', hs, ht, hn, hn' => by
  have hn1 : ∀ k ∈ ks, k.2.Ht n := fun k hk => by cases hn with | mk h => exact h k hk
  have hn2 : ∀ k ∈ ks', k.2.Ht n := fun k hk => by cases hn' with | mk h => exact h k hk
  have IH : ∀ {W : World} {ga gb : Nat} {s t : St}, SetR (Old W) W ga s → SetR (Old W) W gb t → s.Ht n → t.Ht n → Calls Tryz.prog 104 #[.pointer (some ⟨ga, 0, none⟩), .pointer (some ⟨gb, 0, none⟩)] W (EqPost (eqS n s t) W) := fun h1 h2 h3 h4 => setEquals_calls h1 h2 h3 h4
  obtain ⟨MA, KA, mc, kc, xs, ys, a1, a2, a3, a4, a5, a6, a7, a8, a9, a10, a11, a12⟩ := hs.parts
  obtain ⟨MB, KB, md, kd, xs', ys', b1, b2, b3, b4, b5, b6, b7, b8, b9, b10, b11, b12⟩ := ht.parts
  simp only [St.mem, St.kids] at a2 a3 a4 a5 a7 a9 a10 a11 a12 b2 b3 b4 b5 b7 b9 b10 b11 b12
  have ga0 := a2.cell 0
  have ga1 := a2.cell 1
  have gb0 := b2.cell 0
  have gb1 := b2.cell 1
  simp at ga0 ga1 gb0 gb1
  have hg : g < w.heap.size := a1
  have hg' : g' < w.heap.size := b1
  have kd0 : Keeps (Old w) w w.drew := fun _ _ => rfl
  have H1 := hide (esEquals_calls (w := w.drew) (m := m) (m' := m') hg hg' ga0 gb0 (a9.keeps kd0) (b9.keeps kd0) (a11.mono fun _ _ h => h.keeps kd0) (b11.mono fun _ _ h => h.keeps kd0) a3)
  have H2 := hide fun (W : World) (hb : Below w.heap.size w W) => nmEquals_calls (w := W) IH hn1 hn2 (Nat.lt_of_lt_of_le hg hb.size) (Nat.lt_of_lt_of_le hg' hb.size) (((bcell hb).1 _ _ hg).trans ga1) (((bcell hb).1 _ _ hg').trans gb1)
   ((a10.keeps (Keeps.below hb fun _ h => h)).mono fun _ h => Nat.lt_of_lt_of_le h hb.size) ((b10.keeps (Keeps.below hb fun _ h => h)).mono fun _ h => Nat.lt_of_lt_of_le h hb.size) (a12.mono fun _ _ h => KQ.mono (KQ.keeps h (Keeps.below hb fun _ h => h)) fun _ h => Nat.lt_of_lt_of_le h hb.size) (b12.mono fun _ _ h => KQ.mono (KQ.keeps h (Keeps.below hb fun _ h => h)) fun _ h => Nat.lt_of_lt_of_le h hb.size) a4
  rw [show eqS (n + 1) (.mk m ks) (.mk m' ks') = (eqE m m' && eqS.eqK (eqS n) ks ks') from rfl]
  clear hs ht hn hn' IH hn1 hn2 a1 a2 a3 a4 a5 a6 a7 a8 a9 a10 a11 a12 b1 b2 b3 b4 b5 b6 b7 b8 b9 b10 b11 b12 ga0 ga1 gb0 gb1 kd0
  generalize eqE m m' = v1 at *
  generalize eqS.eqK (eqS n) ks ks' = v2 at *
  go_enter Tryz.func104, Tryz.ntmps104
  go_wp2_with fail
  refine wp_region_head 15 (fun _ => True) (by rfl) (by kernel_rfl) ?_
  have hS0 : (fun _ : World => True) w.drew := trivial
  iterate 6
   refine HT.nx (v := ?_) rfl (by kernel_rfl) (fun _ _ _ h => h) (Or.inl ⟨by rfl, ?_⟩) ‹_› ?_
   rotate_left
   ·intro W hSw; go_simp; with_reducible rfl
   simp only [Act.put, zzA, zzZ, zzS]
  refine HT.one 6 rfl (by kernel_rfl) (by rfl) (fun K hK => ?_)
  go_simp
  refine H1.out.mono ?_
  rintro en w1 ⟨rfl, hb1⟩
  have hb1' : Below w.heap.size w w1 := below_drew' hb1
  have Hb1 := hide hb1'
  clear hb1 hb1' H1
  go_simp
  refine hK.out _ _ trivial ?_
  clear hK K
  cases v1
  ·skip
   refine HT.take 7 (v := ?_) rfl (by kernel_rfl) (fun _ _ _ h => h) (Or.inl ⟨by rfl, ?_⟩) ‹_› ?_
   rotate_left
   ·intro W hSw; go_simp; with_reducible rfl
   simp only [Act.put, zzA, zzZ, zzS]
   refine HT.take 8 (v := undef) rfl (by kernel_rfl) (fun _ _ _ h => h) (Or.inr ⟨by rfl, rfl⟩) ‹_› ?_
   simp only [Act.put, zzA, zzZ, zzS]
   refine HT.take 9 (v := undef) rfl (by kernel_rfl) (fun _ _ _ h => h) (Or.inr ⟨by rfl, rfl⟩) ‹_› ?_
   simp only [Act.put, zzA, zzZ, zzS]
   refine HT.take 10 (v := undef) rfl (by kernel_rfl) (fun _ _ _ h => h) (Or.inr ⟨by rfl, rfl⟩) ‹_› ?_
   simp only [Act.put, zzA, zzZ, zzS]
   refine HT.take 11 (v := undef) rfl (by kernel_rfl) (fun _ _ _ h => h) (Or.inr ⟨by rfl, rfl⟩) ‹_› ?_
   simp only [Act.put, zzA, zzZ, zzS]
   refine HT.take 12 (v := undef) rfl (by kernel_rfl) (fun _ _ _ h => h) (Or.inr ⟨by rfl, rfl⟩) ‹_› ?_
   simp only [Act.put, zzA, zzZ, zzS]
   refine HT.take 13 (v := undef) rfl (by kernel_rfl) (fun _ _ _ h => h) (Or.inr ⟨by rfl, rfl⟩) ‹_› ?_
   simp only [Act.put, zzA, zzZ, zzS]
   refine HT.take 14 (v := undef) rfl (by kernel_rfl) (fun _ _ _ h => h) (Or.inr ⟨by rfl, rfl⟩) ‹_› ?_
   simp only [Act.put, zzA, zzZ, zzS]
   refine HT.done (by kernel_rfl) ?_
   simp only [List.drop_succ_cons, List.drop_zero]
   clear hS0 H2
   go_wp2
   go_ret
   exact ⟨rfl, Hb1.out⟩
  ·skip
   iterate 7
    refine HT.nx (v := ?_) rfl (by kernel_rfl) (fun _ _ _ h => h) (Or.inl ⟨by rfl, ?_⟩) ‹_› ?_
    rotate_left
    ·intro W hSw; go_simp; with_reducible rfl
    simp only [Act.put, zzA, zzZ, zzS]
   refine HT.one 14 rfl (by kernel_rfl) (by rfl) (fun K hK => ?_)
   go_simp
   refine (H2.out _ Hb1.out).mono ?_
   rintro en w2 ⟨rfl, hb2⟩
   have Hb2 := hide (Hb1.out.trans (hb2.mono Hb1.out.size))
   clear hb2 H2
   go_simp
   refine hK.out _ _ trivial ?_
   clear hK K
   refine HT.done (by kernel_rfl) ?_
   simp only [List.drop_succ_cons, List.drop_zero]
   clear hS0
   go_wp2
   go_ret
   exact ⟨rfl, Hb2.out⟩

end Go.Proofs.YtbicoknghdgahaaGreat

namespace Go.Proofs.YtbicoknghdgahaaGreat
open Go.RowKit
attribute [local go_sem] run_store_float

theorem vs_nil1 (n : Nat) (a b c : Value) (w : World) : (nilAhead (n + 1) 323 (.agg #[a, b, c]) "APIVersion").run Tryz.prog w = .ok (some false) w := by kernel_rfl
theorem vs_nil2 (n : Nat) (a b c : Value) (w : World) : (nilAhead (n + 1) 323 (.agg #[a, b, c]) "Applied").run Tryz.prog w = .ok (some false) w := by kernel_rfl
theorem vs_nil3 (n : Nat) (a b c : Value) (w : World) : (nilAhead (n + 1) 323 (.agg #[a, b, c]) "Set").run Tryz.prog w = .ok (some false) w := by kernel_rfl
theorem vs_meth1 (n : Nat) (a b c : Value) (w : World) : (method (n + 1) 323 (.agg #[a, b, c]) "APIVersion").run Tryz.prog w = .ok (325, .agg #[a, b, c]) w := by kernel_rfl
theorem vs_meth2 (n : Nat) (a b c : Value) (w : World) : (method (n + 1) 323 (.agg #[a, b, c]) "Applied").run Tryz.prog w = .ok (326, .agg #[a, b, c]) w := by kernel_rfl
theorem vs_meth3 (n : Nat) (a b c : Value) (w : World) : (method (n + 1) 323 (.agg #[a, b, c]) "Set").run Tryz.prog w = .ok (327, .agg #[a, b, c]) w := by kernel_rfl
attribute [local go_sem] vs_nil1 vs_nil2 vs_nil3 vs_meth1 vs_meth2 vs_meth3

theorem apiVersion_calls (g : Nat) (v : ByteArray) (b : Bool) (w : World) : Calls Tryz.prog 325 #[.agg #[.pointer (some ⟨g, 0, none⟩), .string v, .bool b]] w fun en w' => en = .returned (.string v) ∧ Below w.heap.size w w' := by
 have hbA : Below w.heap.size w (w.alloc (.cells #[.pointer (some ⟨g, 0, none⟩), .string v, .bool b] 323)) := (Below.refl _ _).alloc (Nat.le_refl _) _
 have Hb := hide hbA
 clear hbA
 go_enter Tryz.func325, Tryz.ntmps325
 go_wp2
 go_ret
 exact ⟨rfl, Hb.out⟩
theorem applied_calls (g : Nat) (v : ByteArray) (b : Bool) (w : World) : Calls Tryz.prog 326 #[.agg #[.pointer (some ⟨g, 0, none⟩), .string v, .bool b]] w fun en w' => en = .returned (.bool b) ∧ Below w.heap.size w w' := by
 have hbA : Below w.heap.size w (w.alloc (.cells #[.pointer (some ⟨g, 0, none⟩), .string v, .bool b] 323)) := (Below.refl _ _).alloc (Nat.le_refl _) _
 have Hb := hide hbA
 clear hbA
 go_enter Tryz.func326, Tryz.ntmps326
 go_wp2
 go_ret
 exact ⟨rfl, Hb.out⟩
theorem vset_calls (g : Nat) (v : ByteArray) (b : Bool) (w : World) : Calls Tryz.prog 327 #[.agg #[.pointer (some ⟨g, 0, none⟩), .string v, .bool b]] w fun en w' => en = .returned (.pointer (some ⟨g, 0, none⟩)) ∧ Below w.heap.size w w' := by
 have hbA : Below w.heap.size w (w.alloc (.cells #[.pointer (some ⟨g, 0, none⟩), .string v, .bool b] 323)) := (Below.refl _ _).alloc (Nat.le_refl _) _
 have Hb := hide hbA
 clear hbA
 go_enter Tryz.func327, Tryz.ntmps327
 go_wp2
 go_ret
 exact ⟨rfl, Hb.out⟩

def MQInv (N : Nat) (w : World) (l r : List Mgr) (a : Nat) (val : ByteArray → Value) (W : World) : Prop :=
 ∃ vis left, MapRange W w.heap.size a (namesM l) val left ∧ (vis ++ left).Perm (namesM l) ∧ (∀ m ∈ l, m.name ∈ vis → agreeM N r m = true) ∧ Below w.heap.size w W

theorem me_step {N : Nat} {w wr w2 w3 : World} {l r : List Mgr} {a : Nat} {val : ByteArray → Value} {vis left : List ByteArray} {m : Mgr} (hnl : (namesM l).Nodup) (ha : a < w.heap.size) (hm : m ∈ l) (hk : m.name ∈ left) (hmr2 : MapRange w2 w.heap.size a (namesM l) val (left.filter fun x => decide (x ≠ m.name))) (hperm : (vis ++ left).Perm (namesM l)) (hall : ∀ m ∈ l, m.name ∈ vis → agreeM N r m = true)
  (hb2 : Below w.heap.size w w2) (hb3 : Below w2.heap.size w2 w3) (hag : agreeM N r m = true) (hmr : MapRange wr w.heap.size a (namesM l) val left) : w.heap.size < w3.heap.size ∧ MQInv N w l r a val w3 ∧ itMes w.heap.size a (namesM l) val w3 < itMes w.heap.size a (namesM l) val wr := by
 have h3 := hmr2.keep (w' := w3) (hb3.block _ (Nat.lt_of_lt_of_le ha hb2.size)) (hb3.block _ hmr2.lt)
 have hnd : (vis ++ left).Nodup := hperm.nodup_iff.2 hnl
 refine ⟨h3.lt, ⟨vis ++ [m.name], _, h3, (perm_pick hk (List.nodup_append.1 hnd).2.1).trans hperm, fun x hx hv => ?_, hb2.trans (hb3.mono hb2.size)⟩, ?_⟩
 ·rcases List.mem_append.1 hv with hv | hv
  ·exact hall x hx hv
  ·have e := List.mem_singleton.1 hv
   have : x = m := by
    have h1 := findM_of hnl hx
    rw [e, findM_of hnl hm] at h1
    exact (Option.some.inj h1).symm
   rw [this]; exact hag
 ·rw [itMes_at h3, itMes_at hmr]
  exact filter_less hk
theorem eqM_no {N : Nat} {l r : List Mgr} {m : Mgr} (hm : m ∈ l) (h : agreeM N r m = false) : eqM N l r = false := by
 rw [Bool.eq_false_iff]
 intro h'
 unfold eqM at h'
 rw [Bool.and_eq_true, List.all_eq_true] at h'
 rw [h'.2 m hm] at h
 cases h

set_option maxRecDepth 100000 in
set_option maxHeartbeats 8000000 in
theorem mfEquals_calls {N : Nat} {l r : List Mgr} {a b : Nat} {w : World} (h : ManAt (Old w) w l a) (h' : ManAt (Old w) w r b) (hnl : (namesM l).Nodup) (hnr : (namesM r).Nodup) (hl : ∀ m ∈ l, (setP (pels m.set)).Ht N) (hr : ∀ m ∈ r, (setP (pels m.set)).Ht N) :
  Calls Tryz.prog 85 #[.map (some a), .map (some b)] w (EqPost (eqM N l r) w) := by
 obtain ⟨ha, val, hma, hva⟩ := h
 obtain ⟨hb, val', hmb, hvb⟩ := h'
 have ha : a < w.heap.size := ha
 have hb : b < w.heap.size := hb
 have hl1 := hma.run_len (P := Tryz.prog) Tryz.underlying148
 have hl2 := hmb.run_len (P := Tryz.prog) Tryz.underlying148
 rw [show (namesM l).length = l.length from List.length_map _] at hl1
 rw [show (namesM r).length = r.length from List.length_map _] at hl2
 by_cases hlen : l.length = r.length
 case neg =>
  have e : eqM N l r = false := by unfold eqM; simp [hlen]
  rw [e]
  have hli : ¬ (l.length : Int) = (r.length : Int) := by omega
  have hlb : ((l.length : Int) == (r.length : Int)) = false := beq_eq_false_iff_ne.2 hli
  have hlb2 : ((l.length : Int) != (r.length : Int)) = true := by simp [bne, hlb]
  clear hma hva hmb hvb hl hr hnl hnr hlen e
  generalize l.length = M at *
  generalize r.length = M1 at *
  go_enter Tryz.func85, Tryz.ntmps85
  go_wp2
  go_ret
  exact ⟨rfl, Below.refl _ _⟩
 obtain ⟨hrg, hmr⟩ := hma.range (P := Tryz.prog) Tryz.underlying148
 generalize hit : Obj.mapIter _ _ _ _ = io at hmr hrg
 obtain ⟨v, hv⟩ : ∃ v, eqM N l r = v := ⟨_, rfl⟩
 rw [hv]
 have Hv := hide (And.intro hv hlen)
 rw [← hlen] at hl2
 have Hm := hide hmr
 have H := hide (And.intro hnl (And.intro hnr (And.intro hl (And.intro hr (And.intro hva (And.intro hmb hvb))))))
 have hnn : ((l.length : Int) != (l.length : Int)) = false := by simp
 clear hnl hnr hl hr hva hmb hvb hv hlen hmr hit hma
 obtain ⟨n, hn⟩ : ∃ n, l.length = n := ⟨_, rfl⟩
 rw [hn] at hl1 hl2 hnn
 clear hn
 go_enter Tryz.func85, Tryz.ntmps85
 go_wp2_with fail
 go_loopw [5] (fun _ W => w.heap.size < W.heap.size ∧ MQInv N w l r a val W) (fun _ W => itMes w.heap.size a (namesM l) val W)
 case atStart => exact ⟨by simp, [], namesM l, Hm.out, List.Perm.refl _, (fun _ _ h => by cases h), (Below.refl _ _).alloc (Nat.le_refl _) _⟩
 case round =>
  clear hl1 hl2 hrg
  obtain ⟨hsz, vis, left, hmr, hperm, hall, hbl⟩ := hrel
  rcases hmr.next (P := Tryz.prog) 0 with ⟨rfl, hrun⟩ | ⟨k, w2, hk, hrun, hmr2, hgrow, hsize, hent⟩
  ·have hv1 : v = true := by
    rw [← Hv.out.1]
    unfold eqM
    rw [Bool.and_eq_true, List.all_eq_true]
    refine ⟨by simpa using Hv.out.2, fun m hm => hall m hm ?_⟩
    rw [List.append_nil] at hperm
    exact hperm.mem_iff.2 (List.mem_map.2 ⟨m, hm, rfl⟩)
   subst hv1
   have Hb := hide hbl
   clear hbl hall hperm hmr
   go_wp2
   go_ret
   exact ⟨rfl, Hb.out⟩
  ·have hkk : k ∈ namesM l := hperm.subset (List.mem_append_right _ hk)
   obtain ⟨m, hm, rfl⟩ := List.mem_map.1 hkk
   have hb2 : Below w.heap.size w w2 := hbl.grown hgrow hbl.size fun g e => by cases e; exact Nat.le_refl _
   obtain ⟨g, hg, hsg⟩ := H.out.2.2.2.2.1 m hm
   rw [hg] at hrun hent
   have hmb2 : MapIs w2 b (namesM r) val' := H.out.2.2.2.2.2.1.keep (hb2.block _ hb)
   have Hst := hide fun (w3 : World) (hb3 : Below w2.heap.size w2 w3) (hag : agreeM N r m = true) => me_step H.out.1 ha hm hk hmr2 hperm hall hb2 hb3 hag hmr
   have Hno := hide fun (hag : agreeM N r m = false) => eqM_no (N := N) hm hag
   have Hb2 := hide hb2
   have Hg := hide (And.intro hsg (H.out.2.2.1 m hm))
   clear hg hsg hbl hall hperm hmr hmr2 hgrow hk hkk hb2
   by_cases hin : m.name ∈ namesM r
   case neg =>
    have hlk := (hmb2.lookup_no (P := Tryz.prog) Tryz.underlying148 Tryz.underlying9 (z := .nilIface) (by kernel_rfl) m.name hin).1
    have hv0 : v = false := by
     rw [← Hv.out.1]
     exact Hno.out (by unfold agreeM; rw [findM_none hin])
    subst hv0
    clear hmb2 Hst Hno Hg
    go_wp2
    go_ret
    exact ⟨rfl, Hb2.out⟩
   obtain ⟨x, hx, hxn⟩ := List.mem_map.1 hin
   obtain ⟨g', hg', hsg'⟩ := H.out.2.2.2.2.2.2 x hx
   have hlk := (hmb2.lookup_ok (P := Tryz.prog) Tryz.underlying148 Tryz.underlying9 m.name hin).1
   rw [← hxn, hg', hxn] at hlk
   have hag : agreeM N r m = m.eqv N x := by
    unfold agreeM
    rw [← hxn, findM_of H.out.2.1 hx]
   rw [hag] at Hst Hno
   obtain ⟨v2, hv2⟩ : ∃ v2, eqS N (setP (pels m.set)) (setP (pels x.set)) = v2 := ⟨_, rfl⟩
   unfold Mgr.eqv at Hst Hno
   rw [hv2] at Hst Hno
   have HQ := hide fun (W : World) (hb : Below w.heap.size w W) => setEquals_calls (Hg.out.1.at_ hb) (hsg'.at_ hb) Hg.out.2 (H.out.2.2.2.1 x hx)
   rw [hv2] at HQ
   clear hag hg' hsg' hxn hx hin hmb2 Hg hv2
   generalize m.name = mn at *
   generalize m.ver = mv at *
   generalize x.ver = xv at *
   generalize m.app = ma at *
   generalize x.app = xa at *
   go_wp2_with fail
   refine (apiVersion_calls _ _ _ _).mono ?_
   rintro en w3 ⟨rfl, hb3⟩
   have Hb3 := hide hb3
   clear hb3
   go_wp2_with fail
   refine (apiVersion_calls _ _ _ _).mono ?_
   rintro en w4 ⟨rfl, hb4⟩
   have Hb4 := hide (Hb3.out.trans (hb4.mono Hb3.out.size))
   clear hb4 Hb3
   by_cases hver : mv = xv
   case neg =>
    have hv0 : v = false := by
     rw [← Hv.out.1]
     exact Hno.out (by simp [hver])
    subst hv0
    have hne : (mv.toList == xv.toList) = false := by
     rw [Bool.eq_false_iff]
     intro h
     have h := eq_of_beq h
     rw [Lib.toList_data, Lib.toList_data] at h
     exact hver (bytes_ext (by simpa using h))
    have hne2 : (mv.toList != xv.toList) = true := by simp [bne, hne]
    clear Hst Hno HQ
    go_wp2
    go_ret
    exact ⟨rfl, Hb2.out.trans (Hb4.out.mono Hb2.out.size)⟩
   subst hver
   have hne2 : (mv.toList != mv.toList) = false := by simp
   go_wp2_with fail
   refine (applied_calls _ _ _ _).mono ?_
   rintro en w5 ⟨rfl, hb5⟩
   have Hb5 := hide (Hb4.out.trans (hb5.mono Hb4.out.size))
   clear hb5 Hb4
   go_wp2_with fail
   refine (applied_calls _ _ _ _).mono ?_
   rintro en w6 ⟨rfl, hb6⟩
   have Hb6 := hide (Hb5.out.trans (hb6.mono Hb5.out.size))
   clear hb6 Hb5
   by_cases happ : ma = xa
   case neg =>
    have hv0 : v = false := by
     rw [← Hv.out.1]
     exact Hno.out (by simp [happ])
    subst hv0
    have hne3 : (ma == xa) = false := by simp [happ]
    have hne4 : (ma != xa) = true := by simp [bne, happ]
    clear Hst Hno HQ
    go_wp2
    go_ret
    exact ⟨rfl, Hb2.out.trans (Hb6.out.mono Hb2.out.size)⟩
   subst happ
   have hne4 : (ma != ma) = false := by simp
   go_wp2_with fail
   refine (vset_calls _ _ _ _).mono ?_
   rintro en w7 ⟨rfl, hb7⟩
   have Hb7 := hide (Hb6.out.trans (hb7.mono Hb6.out.size))
   clear hb7 Hb6
   go_wp2_with fail
   refine (vset_calls _ _ _ _).mono ?_
   rintro en w8 ⟨rfl, hb8⟩
   have Hb8 := hide (Hb7.out.trans (hb8.mono Hb7.out.size))
   clear hb8 Hb7
   go_wp2_with fail
   refine (HQ.out w8 (Hb2.out.trans (Hb8.out.mono Hb2.out.size))).mono ?_
   rintro en w9 ⟨rfl, hb9⟩
   have Hb9 := hide (Hb8.out.trans (hb9.mono Hb8.out.size))
   clear hb9 Hb8 HQ
   cases v2
   ·have hv0 : v = false := by
     rw [← Hv.out.1]
     exact Hno.out (by simp)
    subst hv0
    clear Hst Hno
    go_wp2
    go_ret
    exact ⟨rfl, Hb2.out.trans (Hb9.out.mono Hb2.out.size)⟩
   ·have Hf := hide (Hst.out w9 Hb9.out (by simp))
    clear Hst Hno
    go_wp2_with fail
    exact ⟨⟨Hf.out.1, Hf.out.2.1⟩, Hf.out.2.2⟩

set_option maxRecDepth 100000 in
set_option maxHeartbeats 4000000 in
theorem implEqualManagers_calls {N : Nat} {l r : List Mgr} {A B : Option Addr} {c d : Nat} {w : World} (h : MgsAt (Old w) w l A c) (h' : MgsAt (Old w) w r B d) (hnl : (namesM l).Nodup) (hnr : (namesM r).Nodup) (hol : TameM l) (hor : TameM r) (h38 : ∀ m ∈ l, m.set.length ≤ N38) (h38' : ∀ m ∈ r, m.set.length ≤ N38)
  (hl : ∀ m ∈ l, (setP (pels m.set)).Ht N) (hr : ∀ m ∈ r, (setP (pels m.set)).Ht N) :
  Calls Tryz.prog 34 #[.slice A l.length c, .slice B r.length d] w (EqPost (eqM N l r) w) := by
 have HT1 := hide (toManagers_calls h hnl hol h38)
 have HT2 := hide fun (W : World) (hb : Below w.heap.size w W) => toManagers_calls (h'.at_ hb) hnr hor h38'
 have HQ := hide fun (W : World) (a b : Nat) (h1 : ManAt (Old W) W l a) (h2 : ManAt (Old W) W r b) => mfEquals_calls h1 h2 hnl hnr hl hr
 clear h h' hnl hnr hol hor h38 h38' hl hr
 obtain ⟨v, hv⟩ : ∃ v, eqM N l r = v := ⟨_, rfl⟩
 rw [hv] at HQ ⊢
 clear hv
 generalize l.length = k1 at *
 generalize r.length = k2 at *
 go_enter Tryz.func34, Tryz.ntmps34
 go_wp2_with fail
 refine HT1.out.mono ?_
 rintro e w1 ⟨a, rfl, hm1, hb1⟩
 have H1 := hide (And.intro hm1 hb1)
 clear hm1 hb1 HT1
 go_wp2_with fail
 refine (HT2.out w1 H1.out.2).mono ?_
 rintro e w2 ⟨b, rfl, hm2, hb2⟩
 have HU := hide (HQ.out w2 a b ((H1.out.1.mono fun b hb => hb.2 : ManAt (Old w1) w1 l a).at_ hb2) (hm2.mono fun b hb => hb.2))
 have Hb := hide (H1.out.2.trans (hb2.mono H1.out.2.size))
 clear hm2 hb2 H1 HT2 HQ
 go_wp2_with fail
 refine HU.out.mono ?_
 rintro e w3 ⟨rfl, hb3⟩
 have Hb3 := hide (Hb.out.trans (hb3.mono Hb.out.size))
 clear hb3 HU
 go_wp2
 go_ret
 exact ⟨rfl, Hb3.out⟩

end Go.Proofs.YtbicoknghdgahaaGreat
