/- Parts: Search, ElemSetM. -/
import Derived.Test.YtbicoknghdgahaaGreatKB08
import Derived.Test.YtbicoknghdgahaaGreatKB10
set_option linter.unusedVariables false
set_option linter.unusedSimpArgs false
namespace Go.Proofs.YtbicoknghdgahaaGreat
open Go.RowKit
attribute [local go_sem] run_store_float

set_option maxRecDepth 100000 in
set_option maxHeartbeats 4000000 in
theorem searchE_calls {f : FuncId} (hcf : ∀ args W, (callFunc f args).run Tryz.prog W = .ok (.enter f args) W) {Q : World → E → List Value → Prop} {l : List E} {A : Option Addr} {c : Nat} {w : World} {xs : List Value} {e : E} {t0 t1 t2 t3 : Value} (hl47 : l.length * 32 ≤ R47) (hr : Row (Old w) w 4 A l.length xs) (hx : Cells 4 (Q w) l xs)
  (hQ : ∀ W a cs, Below w.heap.size w W → Q w a cs → Q W a cs) (hQl : ∀ W a cs, Q W a cs → cs.length = 4) (hok : POk l) (he : e.Ok) (hs : SortC E.cmp l)
  (hF : ∀ (a : E) (cs : List Value) (W : World), Below w.heap.size w W → Q W a cs → Calls Tryz.prog f #[.agg cs.toArray, .agg #[t0, t1, t2, t3]] W (CmpPost (E.cmp a e) W)) :
  Calls Tryz.prog 182 #[.slice A l.length c, .agg #[t0, t1, t2, t3], .func (.func f) #[] #[]] w (SearchPost l e w) := by
 have hl47' : l.length * 32 ≤ 140737488351232 := hl47
 have hcl := cntC_le (c := E.cmp) e l
 have Hcl := hide (cntC_lt E.ord_ he hok hs)
 have H7 := hide (And.intro hr hx)
 have HQ := hide (And.intro hQ hQl)
 have HF := hide hF
 have Hhas := hide (show hasC E.cmp e l = (match l[cntC E.cmp e l]? with | some a => decide (E.cmp a e = 0) | none => false) from by unfold hasC; cases l[cntC E.cmp e l]? <;> rfl)
 unfold SearchPost
 generalize hasC E.cmp e l = has at *
 generalize cntC E.cmp e l = cnt at *
 clear hl47 hr hx hQ hQl hok he hs hF
 go_enter Tryz.func182, Tryz.ntmps182
 go_wp2_with fail
 have hB0 := Bk.new w 109 #[t0, t1, t2, t3]
 have hb0 : Below w.heap.size w (w.alloc (.cells #[t0, t1, t2, t3] 109)) := (Below.refl _ _).alloc (Nat.le_refl _) _
 have H0 := hide (And.intro hB0 hb0)
 clear hB0 hb0
 go_loopw [9, 10] (fun s9 s10 W => BSInv w l.length cnt #[t0, t1, t2, t3] s9 s10 W) (fun s9 s10 _ => (intOf s10).toNat - (intOf s9).toNat)
 case atStart => exact ⟨0, l.length, rfl, rfl, Nat.zero_le _, hcl, Nat.le_refl _, H0.out.1, H0.out.2⟩
 case round =>
  obtain ⟨i, j, rfl, rfl, hi, hj, hjn, hB, hb⟩ := hrel
  have hi0 : (0 : Int) ≤ (i : Int) := Int.natCast_nonneg _
  have hj0 : (0 : Int) ≤ (j : Int) := Int.natCast_nonneg _
  have ec := (bcell hb).1
  have p0 := hB.cell 0
  have p1 := hB.cell 1
  have p2 := hB.cell 2
  have p3 := hB.cell 3
  simp at p0 p1 p2 p3
  have hgl := hB.lt
  by_cases hlt : i < j
  ·have hlti : (i : Int) < (j : Int) := by omega
   obtain ⟨h, hh⟩ : ∃ h, (i + j) / 2 = h := ⟨_, rfl⟩
   have hh1 : i ≤ h := by omega
   have hh2 : h < j := by omega
   have hhl : h < l.length := by omega
   have eh : ((i : Int) + (j : Int)) / 2 = (h : Int) := by omega
   have hhi0 : (0 : Int) ≤ (h : Int) := Int.natCast_nonneg _
   have hhi1 : (h : Int) < (l.length : Int) := by omega
   have hlh : l[h]? = some l[h] := List.getElem?_eq_getElem hhl
   have hx := H7.out.2.at_ hhl
   have hcm := Hcl.out h _ hlh
   generalize l[h] = a at *
   generalize hcs : (xs.drop (h * 4)).take 4 = fcs at hx
   obtain ⟨c0, c1, c2, c3, rfl⟩ : ∃ c0 c1 c2 c3, fcs = [c0, c1, c2, c3] := by
    have hlen := HQ.out.2 _ _ _ hx
    match fcs, hlen with
    | [c0, c1, c2, c3], _ => exact ⟨c0, c1, c2, c3, rfl⟩
   obtain ⟨rb, ro, rfl, hF, hc⟩ := rown_at H7.out.1 hhl hcs
   have m0 := (ec _ _ hF).trans (hc 0 _ rfl)
   have m1 := (ec _ _ hF).trans (hc 1 _ rfl)
   have m2 := (ec _ _ hF).trans (hc 2 _ rfl)
   have m3 := (ec _ _ hF).trans (hc 3 _ rfl)
   rw [Nat.add_zero] at m0
   have hx' := HQ.out.1 wr.drew _ _ (below_drew hb) hx
   have HC := hide (HF.out a _ wr.drew (below_drew hb) hx')
   obtain ⟨v, hv⟩ : ∃ v, E.cmp a e = v := ⟨_, rfl⟩
   rw [hv] at HC hcm
   have Hcm := hide hcm
   have Hb := hide (And.intro hB hb)
   clear hB hb hx hx' hcs hc ec hF hlh hcm hv hh
   go_upto_region 5 with fail
   go_still_tail 6, (by kernel_rfl)
   change wpList _ _ _ _ _ wr.drew
   go_wp2_with fail
   refine HC.out.mono ?_
   rintro e w1 ⟨rfl, hb1⟩
   have hb1' := below_drew' hb1
   have H1 := hide (And.intro (Hb.out.1.below hb1' Hb.out.1.lt) (Hb.out.2.trans (hb1'.mono Hb.out.2.size)))
   clear hb1 hb1' m0 m1 m2 m3 p0 p1 p2 p3 HC
   by_cases hv0 : v < 0
   ·have hc1 := Hcm.out.1 hv0
    clear Hcm
    go_wp2_with fail
    exact ⟨⟨h + 1, j, by go_num, rfl, by omega, hj, hjn, H1.out.1, H1.out.2⟩, by simp [intOf]; omega⟩
   ·have hc1 : ¬ h < cnt := fun k => hv0 (Hcm.out.2 k)
    clear Hcm
    go_wp2_with fail
    exact ⟨⟨i, h, rfl, rfl, hi, by omega, by omega, H1.out.1, H1.out.2⟩, by simp [intOf]; omega⟩
  ·have hci : i = cnt := by omega
   have hlti : ¬ (i : Int) < (j : Int) := by omega
   by_cases hin : i < l.length
   ·have hini : (i : Int) < (l.length : Int) := by omega
    have hlh : l[i]? = some l[i] := List.getElem?_eq_getElem hin
    have hx := H7.out.2.at_ hin
    have hhas := Hhas.out
    rw [← hci, hlh] at hhas
    simp only at hhas
    generalize l[i] = a at *
    generalize hcs : (xs.drop (i * 4)).take 4 = fcs at hx
    obtain ⟨c0, c1, c2, c3, rfl⟩ : ∃ c0 c1 c2 c3, fcs = [c0, c1, c2, c3] := by
     have hlen := HQ.out.2 _ _ _ hx
     match fcs, hlen with
     | [c0, c1, c2, c3], _ => exact ⟨c0, c1, c2, c3, rfl⟩
    obtain ⟨rb, ro, rfl, hF, hc⟩ := rown_at H7.out.1 hin hcs
    have q0 := hc 0 _ rfl
    have q1 := hc 1 _ rfl
    have q2 := hc 2 _ rfl
    have q3 := hc 3 _ rfl
    rw [Nat.add_zero] at q0
    have hx' := HQ.out.1 wr.drew _ _ (below_drew hb) hx
    have HC := hide (HF.out a _ wr.drew (below_drew hb) hx')
    obtain ⟨v, hv⟩ : ∃ v, E.cmp a e = v := ⟨_, rfl⟩
    rw [hv] at HC hhas
    have Hci := hide hci
    have Hh := hide hhas
    have HB := hide (And.intro hb hB)
    clear hB hb hx hx' hcs hc ec hlh hhas hv hci Hhas p0 p1 p2 p3
    go_upto_region 8 with fail
    obtain ⟨S, hS⟩ : ∃ S, (fun W => Below w.heap.size w W ∧ Bk W w.heap.size 109 #[t0, t1, t2, t3]) = S := ⟨_, rfl⟩
    have hS0 : S wr.drew := by rw [← hS]; exact ⟨below_drew HB.out.1, HB.out.2.drew⟩
    refine wp_region_head 15 S (by rfl) (by kernel_rfl) ?_
    have hX := hide (show ∀ W : World, S W → Below w.heap.size w W ∧ Bk W w.heap.size 109 #[t0, t1, t2, t3] from fun W hSw => by rw [← hS] at hSw; exact hSw)
    iterate 11
     refine HT.nx (v := ?_) rfl (by kernel_rfl) (fun _ _ _ h => h) (Or.inl ⟨by rfl, ?_⟩) ‹_› ?_
     rotate_left
     ·intro W hSw; have hSw := hX.out W hSw; have ecw := (bcell hSw.1).1; have m0 := (ecw _ _ hF).trans q0; have m1 := (ecw _ _ hF).trans q1; have m2 := (ecw _ _ hF).trans q2; have m3 := (ecw _ _ hF).trans q3; have s0 := hSw.2.cell 0; have s1 := hSw.2.cell 1; have s2 := hSw.2.cell 2; have s3 := hSw.2.cell 3; simp at s0 s1 s2 s3; clear hSw ecw; go_simp; with_reducible rfl
     simp only [Act.put, zzA, zzZ, zzS]
    clear hX
    refine HT.one 11 rfl (by kernel_rfl) (by rfl) (fun K hK => ?_)
    go_simp
    refine HC.out.mono ?_
    rintro e w1 ⟨rfl, hb1⟩
    have hS1 : S w1 := by rw [← hS]; exact ⟨(below_drew HB.out.1).trans (hb1.mono (below_drew HB.out.1).size), HB.out.2.drew.below hb1 hgl⟩
    have H1 := hide (HB.out.1.trans ((below_drew' hb1).mono HB.out.1.size))
    clear hb1 q0 q1 q2 q3 hF HC
    by_cases hv0 : v = 0
    ·have hb : has = true := by rw [Hh.out]; exact decide_eq_true hv0
     subst hv0 hb
     go_simp
     refine hK.out _ _ hS1 ?_
     clear hK
     iterate 3
      refine HT.nx (v := ?_) rfl (by kernel_rfl) (fun _ _ _ h => h) (Or.inl ⟨by rfl, ?_⟩) ‹_› ?_
      rotate_left
      ·intro W hSw; go_simp; with_reducible rfl
      simp only [Act.put, zzA, zzZ, zzS]
     refine HT.done (by kernel_rfl) ?_
     go_wp2
     go_ret2
     exact ⟨by first | (rw [Hci.out]; done) | (rw [Hci.out]; rfl), H1.out⟩
    ·have hb : has = false := by rw [Hh.out]; exact decide_eq_false hv0
     subst hb
     have hvb : (v == 0) = false := by simpa using hv0
     go_simp
     refine hK.out _ _ hS1 ?_
     clear hK
     iterate 3
      refine HT.nx (v := ?_) rfl (by kernel_rfl) (fun _ _ _ h => h) (Or.inl ⟨by rfl, ?_⟩) ‹_› ?_
      rotate_left
      ·intro W hSw; go_simp; with_reducible rfl
      simp only [Act.put, zzA, zzZ, zzS]
     refine HT.done (by kernel_rfl) ?_
     go_wp2
     go_ret2
     exact ⟨by first | (rw [Hci.out]; done) | (rw [Hci.out]; rfl), H1.out⟩
   ·have hini : ¬ (i : Int) < (l.length : Int) := by omega
    have hb : has = false := by rw [Hhas.out, ← hci, List.getElem?_eq_none (by omega)]
    subst hb
    have Hci := hide hci
    have Hb := hide hb
    clear hB hb ec hci Hhas
    go_wp2_with fail
    go_quiet (fail)
    go_wp2
    go_ret2
    exact ⟨by first | (rw [Hci.out]; done) | (rw [Hci.out]; rfl), below_drewN Hb.out _⟩

set_option maxRecDepth 100000 in
set_option maxHeartbeats 4000000 in
theorem searchK_calls {f : FuncId} (hcf : ∀ args W, (callFunc f args).run Tryz.prog W = .ok (.enter f args) W) {Q : World → E → List Value → Prop} {l : List E} {A : Option Addr} {c : Nat} {w : World} {xs : List Value} {e : E} {t0 t1 t2 t3 : Value} (hl47 : l.length * 40 ≤ R47) (hr : Row (Old w) w 5 A l.length xs) (hx : Cells 5 (Q w) l xs)
  (hQ : ∀ W a cs, Below w.heap.size w W → Q w a cs → Q W a cs) (hQl : ∀ W a cs, Q W a cs → cs.length = 5) (hok : POk l) (he : e.Ok) (hs : SortC E.cmp l)
  (hF : ∀ (a : E) (cs : List Value) (W : World), Below w.heap.size w W → Q W a cs → Calls Tryz.prog f #[.agg cs.toArray, .agg #[t0, t1, t2, t3]] W (CmpPost (E.cmp a e) W)) :
  Calls Tryz.prog 122 #[.slice A l.length c, .agg #[t0, t1, t2, t3], .func (.func f) #[] #[]] w (SearchPost l e w) := by
 have hl47' : l.length * 40 ≤ 140737488351232 := hl47
 have hcl := cntC_le (c := E.cmp) e l
 have Hcl := hide (cntC_lt E.ord_ he hok hs)
 have H7 := hide (And.intro hr hx)
 have HQ := hide (And.intro hQ hQl)
 have HF := hide hF
 have Hhas := hide (show hasC E.cmp e l = (match l[cntC E.cmp e l]? with | some a => decide (E.cmp a e = 0) | none => false) from by unfold hasC; cases l[cntC E.cmp e l]? <;> rfl)
 unfold SearchPost
 generalize hasC E.cmp e l = has at *
 generalize cntC E.cmp e l = cnt at *
 clear hl47 hr hx hQ hQl hok he hs hF
 go_enter Tryz.func122, Tryz.ntmps122
 go_wp2_with fail
 have hB0 := Bk.new w 109 #[t0, t1, t2, t3]
 have hb0 : Below w.heap.size w (w.alloc (.cells #[t0, t1, t2, t3] 109)) := (Below.refl _ _).alloc (Nat.le_refl _) _
 have H0 := hide (And.intro hB0 hb0)
 clear hB0 hb0
 go_loopw [9, 10] (fun s9 s10 W => BSInv w l.length cnt #[t0, t1, t2, t3] s9 s10 W) (fun s9 s10 _ => (intOf s10).toNat - (intOf s9).toNat)
 case atStart => exact ⟨0, l.length, rfl, rfl, Nat.zero_le _, hcl, Nat.le_refl _, H0.out.1, H0.out.2⟩
 case round =>
  obtain ⟨i, j, rfl, rfl, hi, hj, hjn, hB, hb⟩ := hrel
  have hi0 : (0 : Int) ≤ (i : Int) := Int.natCast_nonneg _
  have hj0 : (0 : Int) ≤ (j : Int) := Int.natCast_nonneg _
  have ec := (bcell hb).1
  have p0 := hB.cell 0
  have p1 := hB.cell 1
  have p2 := hB.cell 2
  have p3 := hB.cell 3
  simp at p0 p1 p2 p3
  have hgl := hB.lt
  by_cases hlt : i < j
  ·have hlti : (i : Int) < (j : Int) := by omega
   obtain ⟨h, hh⟩ : ∃ h, (i + j) / 2 = h := ⟨_, rfl⟩
   have hh1 : i ≤ h := by omega
   have hh2 : h < j := by omega
   have hhl : h < l.length := by omega
   have eh : ((i : Int) + (j : Int)) / 2 = (h : Int) := by omega
   have hhi0 : (0 : Int) ≤ (h : Int) := Int.natCast_nonneg _
   have hhi1 : (h : Int) < (l.length : Int) := by omega
   have hlh : l[h]? = some l[h] := List.getElem?_eq_getElem hhl
   have hx := H7.out.2.at_ hhl
   have hcm := Hcl.out h _ hlh
   generalize l[h] = a at *
   generalize hcs : (xs.drop (h * 5)).take 5 = fcs at hx
   obtain ⟨c0, c1, c2, c3, c4, rfl⟩ : ∃ c0 c1 c2 c3 c4, fcs = [c0, c1, c2, c3, c4] := by
    have hlen := HQ.out.2 _ _ _ hx
    match fcs, hlen with
    | [c0, c1, c2, c3, c4], _ => exact ⟨c0, c1, c2, c3, c4, rfl⟩
   obtain ⟨rb, ro, rfl, hF, hc⟩ := rown_at H7.out.1 hhl hcs
   have m0 := (ec _ _ hF).trans (hc 0 _ rfl)
   have m1 := (ec _ _ hF).trans (hc 1 _ rfl)
   have m2 := (ec _ _ hF).trans (hc 2 _ rfl)
   have m3 := (ec _ _ hF).trans (hc 3 _ rfl)
   have m4 := (ec _ _ hF).trans (hc 4 _ rfl)
   rw [Nat.add_zero] at m0
   have hx' := HQ.out.1 wr.drew _ _ (below_drew hb) hx
   have HC := hide (HF.out a _ wr.drew (below_drew hb) hx')
   obtain ⟨v, hv⟩ : ∃ v, E.cmp a e = v := ⟨_, rfl⟩
   rw [hv] at HC hcm
   have Hcm := hide hcm
   have Hb := hide (And.intro hB hb)
   clear hB hb hx hx' hcs hc ec hF hlh hcm hv hh
   go_upto_region 5 with fail
   go_still_tail 6, (by kernel_rfl)
   change wpList _ _ _ _ _ wr.drew
   go_wp2_with fail
   refine HC.out.mono ?_
   rintro e w1 ⟨rfl, hb1⟩
   have hb1' := below_drew' hb1
   have H1 := hide (And.intro (Hb.out.1.below hb1' Hb.out.1.lt) (Hb.out.2.trans (hb1'.mono Hb.out.2.size)))
   clear hb1 hb1' m0 m1 m2 m3 m4 p0 p1 p2 p3 HC
   by_cases hv0 : v < 0
   ·have hc1 := Hcm.out.1 hv0
    clear Hcm
    go_wp2_with fail
    exact ⟨⟨h + 1, j, by go_num, rfl, by omega, hj, hjn, H1.out.1, H1.out.2⟩, by simp [intOf]; omega⟩
   ·have hc1 : ¬ h < cnt := fun k => hv0 (Hcm.out.2 k)
    clear Hcm
    go_wp2_with fail
    exact ⟨⟨i, h, rfl, rfl, hi, by omega, by omega, H1.out.1, H1.out.2⟩, by simp [intOf]; omega⟩
  ·have hci : i = cnt := by omega
   have hlti : ¬ (i : Int) < (j : Int) := by omega
   by_cases hin : i < l.length
   ·have hini : (i : Int) < (l.length : Int) := by omega
    have hlh : l[i]? = some l[i] := List.getElem?_eq_getElem hin
    have hx := H7.out.2.at_ hin
    have hhas := Hhas.out
    rw [← hci, hlh] at hhas
    simp only at hhas
    generalize l[i] = a at *
    generalize hcs : (xs.drop (i * 5)).take 5 = fcs at hx
    obtain ⟨c0, c1, c2, c3, c4, rfl⟩ : ∃ c0 c1 c2 c3 c4, fcs = [c0, c1, c2, c3, c4] := by
     have hlen := HQ.out.2 _ _ _ hx
     match fcs, hlen with
     | [c0, c1, c2, c3, c4], _ => exact ⟨c0, c1, c2, c3, c4, rfl⟩
    obtain ⟨rb, ro, rfl, hF, hc⟩ := rown_at H7.out.1 hin hcs
    have q0 := hc 0 _ rfl
    have q1 := hc 1 _ rfl
    have q2 := hc 2 _ rfl
    have q3 := hc 3 _ rfl
    have q4 := hc 4 _ rfl
    rw [Nat.add_zero] at q0
    have hx' := HQ.out.1 wr.drew _ _ (below_drew hb) hx
    have HC := hide (HF.out a _ wr.drew (below_drew hb) hx')
    obtain ⟨v, hv⟩ : ∃ v, E.cmp a e = v := ⟨_, rfl⟩
    rw [hv] at HC hhas
    have Hci := hide hci
    have Hh := hide hhas
    have HB := hide (And.intro hb hB)
    clear hB hb hx hx' hcs hc ec hlh hhas hv hci Hhas p0 p1 p2 p3
    go_upto_region 8 with fail
    obtain ⟨S, hS⟩ : ∃ S, (fun W => Below w.heap.size w W ∧ Bk W w.heap.size 109 #[t0, t1, t2, t3]) = S := ⟨_, rfl⟩
    have hS0 : S wr.drew := by rw [← hS]; exact ⟨below_drew HB.out.1, HB.out.2.drew⟩
    refine wp_region_head 15 S (by rfl) (by kernel_rfl) ?_
    have hX := hide (show ∀ W : World, S W → Below w.heap.size w W ∧ Bk W w.heap.size 109 #[t0, t1, t2, t3] from fun W hSw => by rw [← hS] at hSw; exact hSw)
    iterate 11
     refine HT.nx (v := ?_) rfl (by kernel_rfl) (fun _ _ _ h => h) (Or.inl ⟨by rfl, ?_⟩) ‹_› ?_
     rotate_left
     ·intro W hSw; have hSw := hX.out W hSw; have ecw := (bcell hSw.1).1; have m0 := (ecw _ _ hF).trans q0; have m1 := (ecw _ _ hF).trans q1; have m2 := (ecw _ _ hF).trans q2; have m3 := (ecw _ _ hF).trans q3; have m4 := (ecw _ _ hF).trans q4; have s0 := hSw.2.cell 0; have s1 := hSw.2.cell 1; have s2 := hSw.2.cell 2; have s3 := hSw.2.cell 3; simp at s0 s1 s2 s3; clear hSw ecw; go_simp; with_reducible rfl
     simp only [Act.put, zzA, zzZ, zzS]
    clear hX
    refine HT.one 11 rfl (by kernel_rfl) (by rfl) (fun K hK => ?_)
    go_simp
    refine HC.out.mono ?_
    rintro e w1 ⟨rfl, hb1⟩
    have hS1 : S w1 := by rw [← hS]; exact ⟨(below_drew HB.out.1).trans (hb1.mono (below_drew HB.out.1).size), HB.out.2.drew.below hb1 hgl⟩
    have H1 := hide (HB.out.1.trans ((below_drew' hb1).mono HB.out.1.size))
    clear hb1 q0 q1 q2 q3 q4 hF HC
    by_cases hv0 : v = 0
    ·have hb : has = true := by rw [Hh.out]; exact decide_eq_true hv0
     subst hv0 hb
     go_simp
     refine hK.out _ _ hS1 ?_
     clear hK
     iterate 3
      refine HT.nx (v := ?_) rfl (by kernel_rfl) (fun _ _ _ h => h) (Or.inl ⟨by rfl, ?_⟩) ‹_› ?_
      rotate_left
      ·intro W hSw; go_simp; with_reducible rfl
      simp only [Act.put, zzA, zzZ, zzS]
     refine HT.done (by kernel_rfl) ?_
     go_wp2
     go_ret2
     exact ⟨by first | (rw [Hci.out]; done) | (rw [Hci.out]; rfl), H1.out⟩
    ·have hb : has = false := by rw [Hh.out]; exact decide_eq_false hv0
     subst hb
     have hvb : (v == 0) = false := by simpa using hv0
     go_simp
     refine hK.out _ _ hS1 ?_
     clear hK
     iterate 3
      refine HT.nx (v := ?_) rfl (by kernel_rfl) (fun _ _ _ h => h) (Or.inl ⟨by rfl, ?_⟩) ‹_› ?_
      rotate_left
      ·intro W hSw; go_simp; with_reducible rfl
      simp only [Act.put, zzA, zzZ, zzS]
     refine HT.done (by kernel_rfl) ?_
     go_wp2
     go_ret2
     exact ⟨by first | (rw [Hci.out]; done) | (rw [Hci.out]; rfl), H1.out⟩
   ·have hini : ¬ (i : Int) < (l.length : Int) := by omega
    have hb : has = false := by rw [Hhas.out, ← hci, List.getElem?_eq_none (by omega)]
    subst hb
    have Hci := hide hci
    have Hb := hide hb
    clear hB hb ec hci Hhas
    go_wp2_with fail
    go_quiet (fail)
    go_wp2
    go_ret2
    exact ⟨by first | (rw [Hci.out]; done) | (rw [Hci.out]; rfl), below_drewN Hb.out _⟩

end Go.Proofs.YtbicoknghdgahaaGreat

namespace Go.Proofs.YtbicoknghdgahaaGreat
open Go.RowKit
attribute [local go_sem] run_store_float

theorem pe_cells_one {F : Nat → Prop} {w : World} {l : List E} {xs : List Value} (h : Cells 4 (PEAt F w) l xs) : ∀ u ∈ xs, u.oneCell' = true :=
 h.ones (by decide) fun a cs h => by
  obtain ⟨a, b, c, d, rfl⟩ := h.form
  simp [Value.oneCell']

theorem pe_cells_laid {F : Nat → Prop} {w : World} {l : List E} {xs : List Value} {e : E} {cs : List Value} {i : Nat} (h : Cells 4 (PEAt F w) l xs) (he : PEAt F w e cs) (hl : cs.length = 4) (hi : i ≤ l.length) : Cells 4 (PEAt F w) (l.take i ++ e :: l.drop i) (laid 4 i cs xs) := by
 have h1 := h.take i hi
 have h2 := h.drop_ i
 have := (h1.append (Cells.one he hl)).append h2
 simpa [laid] using this

set_option maxRecDepth 100000 in
theorem insertCmp_calls {e1 e2 : E} {cs1 cs2 : List Value} {w : World} (h1 : PEAt (Old w) w e1 cs1) (h2 : PEAt (Old w) w e2 cs2) : Calls Tryz.prog 183 #[.agg cs1.toArray, .agg cs2.toArray] w (CmpPost (E.cmp e1 e2) w) := by
 obtain ⟨a0, a1, a2, a3, rfl⟩ := h1.form
 obtain ⟨b0, b1, b2, b3, rfl⟩ := h2.form
 have hb : Below w.heap.size w ((w.alloc (.cells #[.pointer a0, .pointer a1, .pointer a2, .pointer a3] 109)).alloc (.cells #[.pointer b0, .pointer b1, .pointer b2, .pointer b3] 109)) := ((Below.refl _ _).alloc (Nat.le_refl _) _).alloc (by simp) _
 have H := hide (peCompare_calls (h1.at_ hb) (h2.at_ hb))
 have Hb := hide hb
 clear h1 h2 hb
 go_enter Tryz.func183, Tryz.ntmps183
 go_wp2_with fail
 refine H.out.mono ?_
 rintro e w1 ⟨rfl, hb1⟩
 have Hb1 := hide (Hb.out.trans (hb1.mono Hb.out.size))
 clear hb1
 go_wp2
 go_ret
 exact ⟨rfl, Hb1.out⟩

structure ESetC (F : Nat → Prop) (w : World) (t : TypeId) (cs : Array Value) (g o : Nat) (l : List E) (s : Value) (xs : List Value) : Prop where
 bk : Bk w g t cs
 cell : cs[o]? = some s
 own : w.ownsRow 0 109 4 s l.length xs
 at_ : Cells 4 (PEAt F w) l xs
 sep : s.ownBlock ≠ some g
def EInsPostC (F : Nat → Prop) (w : World) (t : TypeId) (cs : Array Value) (g o : Nat) (l' : List E) (s : Value) (en : Ending) (w' : World) : Prop :=
 en = .returned (.tuple #[]) ∧ ∃ s' xs', ESetC F w' t (cs.setIfInBounds o s') g o l' s' xs' ∧ (s'.ownBlock = s.ownBlock ∨ ∃ b, s'.ownBlock = some b ∧ w.heap.size ≤ b) ∧ Grown2 w w' g s.ownBlock
theorem set_idem {cs : Array Value} {o : Nat} {s : Value} (h : cs[o]? = some s) : cs.setIfInBounds o s = cs := by
 apply Array.ext_getElem?
 intro i
 rw [Array.getElem?_setIfInBounds]
 split
 ·rename_i e
  subst e
  split
  ·exact h.symm
  ·rename_i hh
   rw [Array.getElem?_eq_none (by omega)]
 ·rfl
theorem set_cell {cs : Array Value} {o : Nat} {s : Value} (h : cs[o]? = some s) (u : Value) : (cs.setIfInBounds o u)[o]? = some u := by
 obtain ⟨h1, -⟩ := Array.getElem?_eq_some_iff.1 h
 rw [Array.getElem?_setIfInBounds, if_pos rfl, if_pos h1]

set_option maxRecDepth 100000 in
set_option maxHeartbeats 4000000 in
theorem esInsertC_calls {F : Nat → Prop} {w : World} {t : TypeId} {cs : Array Value} {g o : Nat} {l : List E} {s : Value} {xs : List Value} {e : E} {p0 p1 p2 p3 : Option Addr} (hs : ESetC F w t cs g o l s xs) (hF : ∀ b, F b → b < w.heap.size ∧ b ≠ g ∧ s.ownBlock ≠ some b)
  (hpe : PEAt F w e [.pointer p0, .pointer p1, .pointer p2, .pointer p3]) (hok : POk l) (he : e.Ok) (hso : SortC E.cmp l) (hn : (l.length + 1) * 32 ≤ R47) :
  Calls Tryz.prog 126 #[.pointer (some ⟨g, o, none⟩), .agg #[.pointer p0, .pointer p1, .pointer p2, .pointer p3]] w (EInsPostC F w t cs g o (insC E.cmp e l) s) := by
 have hn' : (l.length + 1) * 32 ≤ 140737488351232 := hn
 have hg := hs.bk.lt
 have hlt := hs.own.lt
 obtain ⟨sA, sc, rfl, hc1, hc2⟩ := own_form hs.own
 have hco := hs.cell
 have hbx : Below w.heap.size w (w.alloc (.cells #[.pointer p0, .pointer p1, .pointer p2, .pointer p3] 109)) := (Below.refl _ _).alloc (Nat.le_refl _) _
 obtain ⟨w1, hw1⟩ : ∃ w1, w.alloc (.cells #[.pointer p0, .pointer p1, .pointer p2, .pointer p3] 109) = w1 := ⟨_, rfl⟩
 have hbox : Bk w1 w.heap.size 109 #[.pointer p0, .pointer p1, .pointer p2, .pointer p3] := by rw [← hw1]; exact Bk.new _ _ _
 rw [hw1] at hbx
 have hsz1 : w1.heap.size = w.heap.size + 1 := by rw [← hw1, World.size_alloc]
 have hbk1 : Bk w1 g t cs := hs.bk.below hbx hg
 have kF : Keeps F w w1 := Keeps.below hbx fun b hb => (hF b hb).1
 have hx1 := hs.at_.mono fun _ _ h => h.keeps kF
 have hpe1 := hpe.keeps kF
 have hown1 : w1.ownsRow 0 109 4 (.slice sA l.length sc) l.length xs := by rw [← hw1]; exact hs.own.alloc _
 have hlt1 := hown1.lt
 -- the search
 have hsearch := searchE_calls (f := 183) (fun args W => by kernel_rfl) (Q := fun W a cs => PEAt (Old W) W a cs) (l := l) (A := sA) (c := sc) (w := w1.drew) (xs := xs) (e := e) (t0 := .pointer p0) (t1 := .pointer p1) (t2 := .pointer p2) (t3 := .pointer p3)
  (by unfold R47; omega) ((Row.of_own hown1 fun b hb => (hlt1 b hb).2).keeps (Keeps.below (below_drew (Below.refl w1.heap.size w1)) fun _ h => h)) (hx1.mono fun a cs h => (h.mono fun b hb => by have := (hF b hb).1; show b < w1.heap.size; omega).at_ (below_drew (Below.refl _ _)))
  (fun W a cs hb h => h.at_ hb) (fun W a cs h => by obtain ⟨a, b, c, d, rfl⟩ := h.form; rfl) hok he hso
  (fun a cs W hb h => insertCmp_calls h ((hpe1.mono fun b hb => by have := (hF b hb).1; show b < w1.heap.size; omega).at_ ((below_drew (Below.refl w1.heap.size w1)).trans hb)))
 have Hs := hide hsearch
 have H0 := hide (And.intro hs (And.intro hF (And.intro hx1 (And.intro hpe1 (And.intro hown1 (And.intro hbx hso))))))
 have Hbk := hide (And.intro hbk1 hbox)
 have m0 := (hbk1.cell o).trans hco
 have b0 := hbox.cell 0
 have b1 := hbox.cell 1
 have b2 := hbox.cell 2
 have b3 := hbox.cell 3
 simp at b0 b1 b2 b3
 have hgne : ¬ g = w.heap.size := by omega
 have hgl1 := hbk1.lt
 have hxl1 := hbox.lt
 clear hsearch hs hF hx1 hpe1 hown1 hbx hbk1 hbox hlt hlt1 hpe kF hc1 hc2
 go_enter Tryz.func126, Tryz.ntmps126
 go_wp2_with fail
 try rw [hw1]
 obtain ⟨S, hS⟩ : ∃ S, (fun W => Bk W g t cs ∧ Bk W w.heap.size 109 #[.pointer p0, .pointer p1, .pointer p2, .pointer p3]) = S := ⟨_, rfl⟩
 have hS0 : S w1.drew := by rw [← hS]; exact ⟨Hbk.out.1.drew, Hbk.out.2.drew⟩
 refine wp_region_head 10 S (by rfl) (by kernel_rfl) ?_
 have hX := hide (show ∀ W : World, S W → Bk W g t cs ∧ Bk W w.heap.size 109 #[.pointer p0, .pointer p1, .pointer p2, .pointer p3] from fun W hSw => by rw [← hS] at hSw; exact hSw)
 iterate 5
  refine HT.nx (v := ?_) rfl (by kernel_rfl) (fun _ _ _ h => h) (Or.inl ⟨by rfl, ?_⟩) ‹_› ?_
  rotate_left
  ·intro W hSw; have hSw := hX.out W hSw; have m0 := (hSw.1.cell o).trans hco; have gl := hSw.1.lt; have bl := hSw.2.lt; obtain ⟨-, hSw⟩ := hSw; have b0 := hSw.cell 0; have b1 := hSw.cell 1; have b2 := hSw.cell 2; have b3 := hSw.cell 3; clear hSw; simp at b0 b1 b2 b3; go_simp; with_reducible rfl
  simp only [Act.put, zzA, zzZ, zzS]
 clear hX
 refine HT.one 5 rfl (by kernel_rfl) (by rfl) (fun K hK => ?_)
 go_simp
 refine Hs.out.mono ?_
 rintro en w2 ⟨rfl, hb2⟩
 have hb2' : Below w1.heap.size w1 w2 := below_drew' hb2
 have hS1 : S w2 := by rw [← hS]; exact ⟨Hbk.out.1.drew.below hb2 hgl1, Hbk.out.2.drew.below hb2 hxl1⟩
 obtain ⟨hh, hhe⟩ : ∃ hh, hasC E.cmp e l = hh := ⟨_, rfl⟩
 rw [hhe]
 go_simp
 refine hK.out _ _ hS1 ?_
 clear hK
 iterate 4
  refine HT.nx (v := ?_) rfl (by kernel_rfl) (fun _ _ _ h => h) (Or.inl ⟨by rfl, ?_⟩) ‹_› ?_
  rotate_left
  ·intro W hSw; go_simp; with_reducible rfl
  simp only [Act.put, zzA, zzZ, zzS]
 refine HT.done (by kernel_rfl) ?_
 have hbk2 : Bk w2 g t cs := Hbk.out.1.drew.below hb2 hgl1
 have hbox2 : Bk w2 w.heap.size 109 #[.pointer p0, .pointer p1, .pointer p2, .pointer p3] := Hbk.out.2.drew.below hb2 hxl1
 have hb02 : Below w.heap.size w w2 := H0.out.2.2.2.2.2.1.trans (hb2'.mono H0.out.2.2.2.2.2.1.size)
 have hx2 : Cells 4 (PEAt F w2) l xs := H0.out.2.2.1.mono fun _ _ h => h.keeps (Keeps.below hb2' fun b hb => by have := (H0.out.2.1 b hb).1; omega)
 have hpe2 : PEAt F w2 e [.pointer p0, .pointer p1, .pointer p2, .pointer p3] := H0.out.2.2.2.1.keeps (Keeps.below hb2' fun b hb => by have := (H0.out.2.1 b hb).1; omega)
 have hown2 : w2.ownsRow 0 109 4 (.slice sA l.length sc) l.length xs := ownsRow_below H0.out.2.2.2.2.1 hb2' (Nat.le_refl _)
 have H2 := hide (And.intro hbk2 (And.intro hbox2 (And.intro hb02 (And.intro hx2 (And.intro hpe2 hown2)))))
 have hgl2 := hbk2.lt
 have hxl2 := hbox2.lt
 clear hb2 hb2' hS0 hS1 hbk2 hbox2 hb02 hx2 hpe2 hown2 m0 b0 b1 b2 b3
 cases hh
 ·have hins : insC E.cmp e l = l.take (cntC E.cmp e l) ++ e :: l.drop (cntC E.cmp e l) := by rw [insC_eq, if_neg (by rw [hhe]; decide)]
  have hcl := cntC_le (c := E.cmp) e l
  have Hins := hide hins
  clear hins hhe Hs
  generalize cntC E.cmp e l = cnt at *
  go_wp2_with fail
  have hS0 : S w2.drew := by rw [← hS]; exact ⟨H2.out.1.drew, H2.out.2.1.drew⟩
  have hbL : Below w2.heap.size w2 (w2.drew.alloc (.cells #[.pointer p0, .pointer p1, .pointer p2, .pointer p3] 109)) := (below_drew (Below.refl w2.heap.size w2)).alloc (Nat.le_refl _) _
  have hvb : Bk (w2.drew.alloc (.cells #[.pointer p0, .pointer p1, .pointer p2, .pointer p3] 109)) w2.heap.size 109 #[.pointer p0, .pointer p1, .pointer p2, .pointer p3] := Bk.new w2.drew _ _
  have hownL : ((w2.drew.alloc (.cells #[.pointer p0, .pointer p1, .pointer p2, .pointer p3] 109))).ownsRow 0 109 4 (.slice sA l.length sc) l.length xs := ownsRow_below H2.out.2.2.2.2.2 hbL (Nat.le_refl _)
  have hltL := H2.out.2.2.2.2.2.lt
  have hS3 : S (w2.drew.alloc (.cells #[.pointer p0, .pointer p1, .pointer p2, .pointer p3] 109)) := by rw [← hS]; exact ⟨H2.out.1.drew.alloc _, H2.out.2.1.drew.alloc _⟩
  have HI := hide (insertE_calls (i := cnt) (vs := [.pointer p0, .pointer p1, .pointer p2, .pointer p3]) hownL hcl hvb rfl (by simp [Value.oneCell']) (pe_cells_one H2.out.2.2.2.1) (fun e => by have := (hltL _ e).2; omega) (by omega))
  have HL := hide (And.intro hbL (And.intro hS3 hltL))
  clear hbL hvb hownL hltL hS3
  refine wp_region_head 9 S (by rfl) (by kernel_rfl) ?_
  have hX := hide (show ∀ W : World, S W → Bk W g t cs ∧ Bk W w.heap.size 109 #[.pointer p0, .pointer p1, .pointer p2, .pointer p3] from fun W hSw => by rw [← hS] at hSw; exact hSw)
  iterate 7
   refine HT.nx (v := ?_) rfl (by kernel_rfl) (fun _ _ _ h => h) (Or.inl ⟨by rfl, ?_⟩) ‹_› ?_
   rotate_left
   ·intro W hSw; have hSw := hX.out W hSw; have m0 := (hSw.1.cell o).trans hco; have gl := hSw.1.lt; have bl := hSw.2.lt; obtain ⟨-, hSw⟩ := hSw; have b0 := hSw.cell 0; have b1 := hSw.cell 1; have b2 := hSw.cell 2; have b3 := hSw.cell 3; clear hSw; simp at b0 b1 b2 b3; go_simp; with_reducible rfl
   simp only [Act.put, zzA, zzZ, zzS]
  clear hX
  refine HT.one 7 rfl (by kernel_rfl) (by rfl) (fun K hK => ?_)
  go_simp
  refine hK.out _ _ HL.out.2.1 ?_
  clear hK
  refine HT.one 8 rfl (by kernel_rfl) (by rfl) (fun K hK => ?_)
  go_simp
  refine HI.out.mono ?_
  rintro en w4 ⟨s', rfl, hown4, hgr, hblk⟩
  have hbk4 : Bk w4 g t cs := (H2.out.1.drew.alloc _).grown hgr (fun e => H0.out.1.sep e.symm)
  have hbox4 : Bk w4 w.heap.size 109 #[.pointer p0, .pointer p1, .pointer p2, .pointer p3] := (H2.out.2.1.drew.alloc _).grown hgr (fun e => by have := (H0.out.1.own.lt _ e.symm).2; omega)
  have hS4 : S w4 := by rw [← hS]; exact ⟨hbk4, hbox4⟩
  obtain ⟨A4, c4, rfl, _, _⟩ := own_form hown4
  go_simp
  refine hK.out _ _ hS4 ?_
  clear hK
  refine HT.done (by kernel_rfl) ?_
  have m4 := (hbk4.cell o).trans hco
  have f4 := hbk4.free
  have l4 := hbk4.lt
  have hsz : w2.heap.size + 1 ≤ w4.heap.size := by have := hgr.size; rw [World.size_alloc] at this; exact this
  have hkF : Keeps F w2 (w4.setCell ⟨g, o, none⟩ (.slice A4 (l.length + 1) c4)) := by
   intro b hb
   have h1 := H0.out.2.1 b hb
   have h2 := H2.out.2.2.1.size
   rw [Below.heap_setCell _ _ _ _ (by simp only; exact h1.2.1), hgr.block b (by rw [World.size_alloc]; show b < w2.heap.size + 1; omega) (fun e => h1.2.2 e.symm), Below.heap_alloc _ _ _ (show b < w2.drew.heap.size from by show b < w2.heap.size; omega)]
   rfl
  have hcs := pe_cells_laid (H2.out.2.2.2.1.mono fun _ _ h => h.keeps hkF) (H2.out.2.2.2.2.1.keeps hkF) rfl hcl
  have hsep : (Value.slice A4 (l.length + 1) c4).ownBlock ≠ some g := by
   rcases hblk with e | ⟨b, e, hb⟩
   ·rw [e]; exact H0.out.1.sep
   ·rw [e]; intro e2; cases e2; rw [World.size_alloc] at hb; have : w2.heap.size + 1 ≤ g := hb; omega
  have hown5 : (w4.setCell ⟨g, o, none⟩ (.slice A4 (l.length + 1) c4)).ownsRow 0 109 4 (.slice A4 (l.length + 1) c4) (l.length + 1) (laid 4 cnt [.pointer p0, .pointer p1, .pointer p2, .pointer p3] xs) :=
   ownsRow_kept hown4 fun b hb => Below.heap_setCell _ _ _ _ (fun e => hsep (by rw [hb]; exact congrArg some e))
  have hbk5 : Bk (w4.setCell ⟨g, o, none⟩ (.slice A4 (l.length + 1) c4)) g t (cs.setIfInBounds o (.slice A4 (l.length + 1) c4)) := hbk4.set_ o (.slice A4 (l.length + 1) c4)
  have hlen : (l.take cnt ++ e :: l.drop cnt).length = l.length + 1 := by simp; omega
  have hG2 : Grown2 w (w4.setCell ⟨g, o, none⟩ (.slice A4 (l.length + 1) c4)) g (Value.slice sA l.length sc).ownBlock := by
   have hb := H2.out.2.2.1
   refine ⟨(setCell_same _ _ _).1.trans (hgr.os.trans hb.os), (setCell_same _ _ _).2.1.trans (hgr.tape.trans hb.tape), (setCell_same _ _ _).2.2.1.trans (hgr.output.trans hb.output), by rw [(setCell_same _ _ _).2.2.2]; have := hb.size; omega, fun k hk hkg hkr => ?_⟩
   have h2 := hb.size
   rw [Below.heap_setCell _ _ _ _ (by simp only; exact hkg), hgr.block k (by rw [World.size_alloc]; show k < w2.heap.size + 1; omega) hkr, Below.heap_alloc _ _ _ (show k < w2.drew.heap.size from by show k < w2.heap.size; omega)]
   exact hb.block k hk
  have Hfin := hide (And.intro (ESetC.mk hbk5 (set_cell hco _) (by rw [hlen]; exact hown5) hcs hsep : ESetC F _ t _ g o (l.take cnt ++ e :: l.drop cnt) _ _) (And.intro (show (Value.slice A4 (l.length + 1) c4).ownBlock = (Value.slice sA l.length sc).ownBlock ∨ ∃ b, (Value.slice A4 (l.length + 1) c4).ownBlock = some b ∧ w.heap.size ≤ b from hblk.imp id fun ⟨b, e, hb⟩ => ⟨b, e, by have := H2.out.2.2.1.size; rw [World.size_alloc] at hb; have : w2.heap.size + 1 ≤ b := hb; omega⟩) hG2))
  clear hown4 hgr hblk hbk4 hbox4 hS4 hkF hcs hsep hown5 hbk5 hlen hG2
  go_wp2
  go_returns
  exact ⟨rfl, _, _, by rw [Hins.out]; exact Hfin.out.1, Hfin.out.2.1, Hfin.out.2.2⟩
 ·have hins : insC E.cmp e l = l := by rw [insC_eq, if_pos hhe]
  have Hins := hide hins
  clear hins
  go_wp2
  go_returns
  refine ⟨rfl, _, xs, ?_, .inl rfl, ?_⟩
  ·rw [Hins.out]
   rw [set_idem hco]
   exact ⟨H2.out.1, hco, H2.out.2.2.2.2.2, H2.out.2.2.2.1, H0.out.1.sep⟩
  ·exact ⟨H2.out.2.2.1.os, H2.out.2.2.1.tape, H2.out.2.2.1.output, H2.out.2.2.1.size, fun k hk _ _ => H2.out.2.2.1.block k hk⟩

end Go.Proofs.YtbicoknghdgahaaGreat
