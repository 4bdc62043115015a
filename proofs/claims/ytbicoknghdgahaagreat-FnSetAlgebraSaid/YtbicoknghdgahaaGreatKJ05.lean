/- Parts: AlgLawP, MrgEI, SetEmpty. -/
import Derived.Test.YtbicoknghdgahaaGreatKC01
import Derived.Test.YtbicoknghdgahaaGreatKJ04
set_option linter.unusedVariables false
set_option linter.unusedSimpArgs false
namespace Go.Proofs.YtbicoknghdgahaaGreat
open Go.RowKit

def ap2 (o : SOp) (N : Nat) (l m : List (List REl)) : List (List REl) := (apL o N (pels l) (pels m)).map (List.map E.toREl)
structure GoodL (N K : Nat) (l : List (List REl)) : Prop where
 ok : ∀ p ∈ pels l, POk p
 ht : (setP (pels l)).Ht N
 le : l.length ≤ K
theorem ap2_pels {o : SOp} {N : Nat} {l m : List (List REl)} : pels (ap2 o N l m) = apL o N (pels l) (pels m) := pels_back (apL_pws (fun p hp => pels_pws hp) (fun p hp => pels_pws hp))
theorem ap2_good {o : SOp} {N K J : Nat} {l m : List (List REl)} (hN : 0 < N) (h : GoodL N K l) (h' : GoodL N J m) : GoodL N (K + J) (ap2 o N l m) where
 ok := by rw [ap2_pels]; exact apL_ok h.ok h'.ok
 ht := by rw [ap2_pels]; exact setP_ht_of (apL_len h.ht h'.ht) hN
 le := by
  have h1 := apL_count (o := o) (n := N) (a := pels l) (b := pels m)
  have e1 : (pels l).length = l.length := List.length_map _
  have e2 : (pels m).length = m.length := List.length_map _
  have h2 := h.le
  have h3 := h'.le
  unfold ap2
  rw [List.length_map]
  omega
theorem ap2_has {o : SOp} {N K J : Nat} {l m : List (List REl)} (h : GoodL N K l) (h' : GoodL N J m) {x : List E} (hx : POk x) (hx0 : x ≠ []) :
  HasC wcmp (pels (ap2 o N l m)) x ↔ o.says (HasC wcmp (pels l) x) (HasC wcmp (pels m) x) := by
 rw [ap2_pels]
 exact apL_has h.ok h'.ok h.ht h'.ht hx hx0
theorem eq_good {N K J : Nat} {a b : List (List REl)} (ha : GoodL N K a) (hb : GoodL N J b) (h : ∀ x, POk x → x ≠ [] → (HasC wcmp (pels a) x ↔ HasC wcmp (pels b) x)) :
  eqS N (setP (pels a)) (setP (pels b)) = true := (eqS_lists ha.ok hb.ok ha.ht hb.ht).2 h
theorem alg_unC {N K J I : Nat} {a b c : List (List REl)} (hN : 0 < N) (ha : GoodL N K a) (hb : GoodL N J b) (hc : GoodL N I c) :
  eqS N (setP (pels (ap2 SOp.un N a b))) (setP (pels (ap2 SOp.un N b a))) = true := by
 refine eq_good (ap2_good (o := SOp.un) hN ha hb) (ap2_good (o := SOp.un) hN hb ha) fun x hx hx0 => ?_
 rw [ap2_has (o := SOp.un) ha hb hx hx0, ap2_has (o := SOp.un) hb ha hx hx0]
 simp only [SOp.says, SOp.un, SOp.meet, SOp.less]
 by_cases ea : HasC wcmp (pels a) x <;> by_cases eb : HasC wcmp (pels b) x <;> by_cases ec : HasC wcmp (pels c) x <;> simp [ea, eb, ec]
theorem alg_unA {N K J I : Nat} {a b c : List (List REl)} (hN : 0 < N) (ha : GoodL N K a) (hb : GoodL N J b) (hc : GoodL N I c) :
  eqS N (setP (pels (ap2 SOp.un N (ap2 SOp.un N a b) c))) (setP (pels (ap2 SOp.un N a (ap2 SOp.un N b c)))) = true := by
 refine eq_good (ap2_good (o := SOp.un) hN (ap2_good (o := SOp.un) hN ha hb) hc) (ap2_good (o := SOp.un) hN ha (ap2_good (o := SOp.un) hN hb hc)) fun x hx hx0 => ?_
 rw [ap2_has (o := SOp.un) (ap2_good (o := SOp.un) hN ha hb) hc hx hx0, ap2_has (o := SOp.un) ha hb hx hx0, ap2_has (o := SOp.un) ha (ap2_good (o := SOp.un) hN hb hc) hx hx0, ap2_has (o := SOp.un) hb hc hx hx0]
 simp only [SOp.says, SOp.un, SOp.meet, SOp.less]
 by_cases ea : HasC wcmp (pels a) x <;> by_cases eb : HasC wcmp (pels b) x <;> by_cases ec : HasC wcmp (pels c) x <;> simp [ea, eb, ec]
theorem alg_meetC {N K J I : Nat} {a b c : List (List REl)} (hN : 0 < N) (ha : GoodL N K a) (hb : GoodL N J b) (hc : GoodL N I c) :
  eqS N (setP (pels (ap2 SOp.meet N a b))) (setP (pels (ap2 SOp.meet N b a))) = true := by
 refine eq_good (ap2_good (o := SOp.meet) hN ha hb) (ap2_good (o := SOp.meet) hN hb ha) fun x hx hx0 => ?_
 rw [ap2_has (o := SOp.meet) ha hb hx hx0, ap2_has (o := SOp.meet) hb ha hx hx0]
 simp only [SOp.says, SOp.un, SOp.meet, SOp.less]
 by_cases ea : HasC wcmp (pels a) x <;> by_cases eb : HasC wcmp (pels b) x <;> by_cases ec : HasC wcmp (pels c) x <;> simp [ea, eb, ec]
theorem alg_meetA {N K J I : Nat} {a b c : List (List REl)} (hN : 0 < N) (ha : GoodL N K a) (hb : GoodL N J b) (hc : GoodL N I c) :
  eqS N (setP (pels (ap2 SOp.meet N (ap2 SOp.meet N a b) c))) (setP (pels (ap2 SOp.meet N a (ap2 SOp.meet N b c)))) = true := by
 refine eq_good (ap2_good (o := SOp.meet) hN (ap2_good (o := SOp.meet) hN ha hb) hc) (ap2_good (o := SOp.meet) hN ha (ap2_good (o := SOp.meet) hN hb hc)) fun x hx hx0 => ?_
 rw [ap2_has (o := SOp.meet) (ap2_good (o := SOp.meet) hN ha hb) hc hx hx0, ap2_has (o := SOp.meet) ha hb hx hx0, ap2_has (o := SOp.meet) ha (ap2_good (o := SOp.meet) hN hb hc) hx hx0, ap2_has (o := SOp.meet) hb hc hx hx0]
 simp only [SOp.says, SOp.un, SOp.meet, SOp.less]
 by_cases ea : HasC wcmp (pels a) x <;> by_cases eb : HasC wcmp (pels b) x <;> by_cases ec : HasC wcmp (pels c) x <;> simp [ea, eb, ec]
theorem alg_meetUn {N K J I : Nat} {a b c : List (List REl)} (hN : 0 < N) (ha : GoodL N K a) (hb : GoodL N J b) (hc : GoodL N I c) :
  eqS N (setP (pels (ap2 SOp.meet N a (ap2 SOp.un N b c)))) (setP (pels (ap2 SOp.un N (ap2 SOp.meet N a b) (ap2 SOp.meet N a c)))) = true := by
 refine eq_good (ap2_good (o := SOp.meet) hN ha (ap2_good (o := SOp.un) hN hb hc)) (ap2_good (o := SOp.un) hN (ap2_good (o := SOp.meet) hN ha hb) (ap2_good (o := SOp.meet) hN ha hc)) fun x hx hx0 => ?_
 rw [ap2_has (o := SOp.meet) ha (ap2_good (o := SOp.un) hN hb hc) hx hx0, ap2_has (o := SOp.un) hb hc hx hx0, ap2_has (o := SOp.un) (ap2_good (o := SOp.meet) hN ha hb) (ap2_good (o := SOp.meet) hN ha hc) hx hx0, ap2_has (o := SOp.meet) ha hb hx hx0, ap2_has (o := SOp.meet) ha hc hx hx0]
 simp only [SOp.says, SOp.un, SOp.meet, SOp.less]
 by_cases ea : HasC wcmp (pels a) x <;> by_cases eb : HasC wcmp (pels b) x <;> by_cases ec : HasC wcmp (pels c) x <;> simp [ea, eb, ec]
theorem alg_unMeet {N K J I : Nat} {a b c : List (List REl)} (hN : 0 < N) (ha : GoodL N K a) (hb : GoodL N J b) (hc : GoodL N I c) :
  eqS N (setP (pels (ap2 SOp.un N a (ap2 SOp.meet N b c)))) (setP (pels (ap2 SOp.meet N (ap2 SOp.un N a b) (ap2 SOp.un N a c)))) = true := by
 refine eq_good (ap2_good (o := SOp.un) hN ha (ap2_good (o := SOp.meet) hN hb hc)) (ap2_good (o := SOp.meet) hN (ap2_good (o := SOp.un) hN ha hb) (ap2_good (o := SOp.un) hN ha hc)) fun x hx hx0 => ?_
 rw [ap2_has (o := SOp.un) ha (ap2_good (o := SOp.meet) hN hb hc) hx hx0, ap2_has (o := SOp.meet) hb hc hx hx0, ap2_has (o := SOp.meet) (ap2_good (o := SOp.un) hN ha hb) (ap2_good (o := SOp.un) hN ha hc) hx hx0, ap2_has (o := SOp.un) ha hb hx hx0, ap2_has (o := SOp.un) ha hc hx hx0]
 simp only [SOp.says, SOp.un, SOp.meet, SOp.less]
 by_cases ea : HasC wcmp (pels a) x <;> by_cases eb : HasC wcmp (pels b) x <;> by_cases ec : HasC wcmp (pels c) x <;> simp [ea, eb, ec]
theorem alg_lessUn {N K J I : Nat} {a b c : List (List REl)} (hN : 0 < N) (ha : GoodL N K a) (hb : GoodL N J b) (hc : GoodL N I c) :
  eqS N (setP (pels (ap2 SOp.less N a (ap2 SOp.un N b c)))) (setP (pels (ap2 SOp.less N (ap2 SOp.less N a b) c))) = true := by
 refine eq_good (ap2_good (o := SOp.less) hN ha (ap2_good (o := SOp.un) hN hb hc)) (ap2_good (o := SOp.less) hN (ap2_good (o := SOp.less) hN ha hb) hc) fun x hx hx0 => ?_
 rw [ap2_has (o := SOp.less) ha (ap2_good (o := SOp.un) hN hb hc) hx hx0, ap2_has (o := SOp.un) hb hc hx hx0, ap2_has (o := SOp.less) (ap2_good (o := SOp.less) hN ha hb) hc hx hx0, ap2_has (o := SOp.less) ha hb hx hx0]
 simp only [SOp.says, SOp.un, SOp.meet, SOp.less]
 by_cases ea : HasC wcmp (pels a) x <;> by_cases eb : HasC wcmp (pels b) x <;> by_cases ec : HasC wcmp (pels c) x <;> simp [ea, eb, ec]
theorem alg_lessMeet {N K J I : Nat} {a b c : List (List REl)} (hN : 0 < N) (ha : GoodL N K a) (hb : GoodL N J b) (hc : GoodL N I c) :
  eqS N (setP (pels (ap2 SOp.less N a (ap2 SOp.meet N b c)))) (setP (pels (ap2 SOp.un N (ap2 SOp.less N a b) (ap2 SOp.less N a c)))) = true := by
 refine eq_good (ap2_good (o := SOp.less) hN ha (ap2_good (o := SOp.meet) hN hb hc)) (ap2_good (o := SOp.un) hN (ap2_good (o := SOp.less) hN ha hb) (ap2_good (o := SOp.less) hN ha hc)) fun x hx hx0 => ?_
 rw [ap2_has (o := SOp.less) ha (ap2_good (o := SOp.meet) hN hb hc) hx hx0, ap2_has (o := SOp.meet) hb hc hx hx0, ap2_has (o := SOp.un) (ap2_good (o := SOp.less) hN ha hb) (ap2_good (o := SOp.less) hN ha hc) hx hx0, ap2_has (o := SOp.less) ha hb hx hx0, ap2_has (o := SOp.less) ha hc hx hx0]
 simp only [SOp.says, SOp.un, SOp.meet, SOp.less]
 by_cases ea : HasC wcmp (pels a) x <;> by_cases eb : HasC wcmp (pels b) x <;> by_cases ec : HasC wcmp (pels c) x <;> simp [ea, eb, ec]
end Go.Proofs.YtbicoknghdgahaaGreat

namespace Go.Proofs.YtbicoknghdgahaaGreat
open Go.RowKit
attribute [local go_sem] run_store_float

set_option maxRecDepth 100000 in
set_option maxHeartbeats 8000000 in
theorem esIntersection_calls {F : Nat → Prop} {w : World} {g g' : Nat} {m m' : List E} {MA MB : Option Addr} {mc md : Nat} {xs ys : List Value} (hF : ∀ b, F b → b < w.heap.size) (hg : g < w.heap.size) (hg' : g' < w.heap.size) (m0 : w.cell? ⟨g, 0, none⟩ = some (.slice MA m.length mc)) (n0 : w.cell? ⟨g', 0, none⟩ = some (.slice MB m'.length md))
  (hmc : m.length ≤ mc) (hmd : m'.length ≤ md) (hr : Row F w 4 MA m.length xs) (hr' : Row F w 4 MB m'.length ys) (hx : Cells 4 (PEAt F w) m xs) (hy : Cells 4 (PEAt F w) m' ys) (h47 : (m.length + m'.length) * 32 ≤ R47) :
  Calls Tryz.prog 155 #[.pointer (some ⟨g, 0, none⟩), .pointer (some ⟨g', 0, none⟩)] w (fun en w' => en = .returned (.pointer (some ⟨w.heap.size, 0, none⟩)) ∧ ∃ s us, Mg 4 124 109 PEAt F w (mrg E.cmp SOp.meet.kl SOp.meet.kr SOp.meet.el m m') s w' us) := by
 have h47' : (m.length + m'.length) * 32 ≤ 140737488351232 := h47
 obtain ⟨i9, hi9, hz9, hs9, hb9⟩ := info_parts pe_info
 obtain ⟨M, hM⟩ : ∃ M, m.length = M := ⟨_, rfl⟩
 obtain ⟨M1, hM1⟩ : ∃ M1, m'.length = M1 := ⟨_, rfl⟩
 have HM := hide (And.intro hM hM1)
 rw [hM] at m0 hmc hr h47'
 rw [hM1] at n0 hmd hr' h47'
 have HG := hide (And.intro hg (And.intro hg' (And.intro m0 (And.intro n0 (And.intro hr (And.intro hr' (And.intro hx hy)))))))
 obtain ⟨R, hR⟩ : ∃ R, mrg E.cmp SOp.meet.kl SOp.meet.kr SOp.meet.el m m' = R := ⟨_, rfl⟩
 rw [hR]
 have HRR := hide hR
 have HF := hide hF
 clear hr hr' hx hy h47 hM hM1 hR hF
 have hb0 : Below w.heap.size w (w.alloc (.cells #[.slice none 0 0] 124)) := (Below.refl _ _).alloc (Nat.le_refl _) _
 have hm0 : Mg 4 124 109 PEAt F w ([] : List E) (.slice none 0 0) (w.alloc (.cells #[.slice none 0 0] 124)) [] := Mg.start hb0 (Bk.new _ _ _)
 have Hm0 := hide hm0
 clear hm0 hb0
 go_enter Tryz.func155, Tryz.ntmps155
 go_wp2_with fail
 go_loopw [6, 7] (fun s6 s7 W => MEInv SOp.meet.kl SOp.meet.kr SOp.meet.el F w m m' s6 s7 W) (fun s6 s7 _ => (m.length - (intOf s6).toNat) + (m'.length - (intOf s7).toNat))
 case atStart => exact ⟨0, 0, [], _, [], rfl, rfl, Nat.zero_le _, Nat.zero_le _, Nat.le_refl _, rfl, Hm0.out⟩
 case round =>
  clear m0 n0
  obtain ⟨i, j, done, s, us, rfl, rfl, hi, hj, hdl, heq, hm⟩ := hrel
  rw [HM.out.1] at hi
  rw [HM.out.2] at hj
  have hki0 : (0 : Int) ≤ (i : Int) := Int.natCast_nonneg _
  have hkj0 : (0 : Int) ≤ (j : Int) := Int.natCast_nonneg _
  obtain ⟨n, hn⟩ : ∃ n, done.length = n := ⟨_, rfl⟩
  have hown := hm.own
  rw [hn] at hdl hown
  obtain ⟨oA, oc, rfl, hoc1, hoc2⟩ := own_form hown
  have Hn := hide hn
  have Hm := hide hm
  clear hn hown hm
  obtain ⟨wo, hwo⟩ : ∃ W, W = wr := ⟨_, rfl⟩
  subst hwo
  have ec := (bcell Hm.out.below).1
  have s0 := (ec _ 0 HG.out.1).trans HG.out.2.2.1
  have t0 := (ec _ 0 HG.out.2.1).trans HG.out.2.2.2.1
  have o0 := Hm.out.bk.cell 0
  have ol := Hm.out.bk.lt
  have hwe : w.heap.size < wo.heap.size := ol
  simp at o0
  by_cases hi1 : i < M
  ·by_cases hj1 : j < M1
   ·have hki1 : (i : Int) < (M : Int) := by omega
    have hkj1 : (j : Int) < (M1 : Int) := by omega
    have hx' := HG.out.2.2.2.2.2.2.1.at_ (show i < m.length by rw [HM.out.1]; exact hi1)
    have hy' := HG.out.2.2.2.2.2.2.2.at_ (show j < m'.length by rw [HM.out.2]; exact hj1)
    rw [mrg_drop (show i < m.length by rw [HM.out.1]; exact hi1) (show j < m'.length by rw [HM.out.2]; exact hj1)] at heq
    generalize m[i]'(by rw [HM.out.1]; exact hi1) = a at *
    generalize m'[j]'(by rw [HM.out.2]; exact hj1) = b at *
    generalize hcs : (xs.drop (i * 4)).take 4 = fcs at hx'
    generalize hds : (ys.drop (j * 4)).take 4 = gcs at hy'
    obtain ⟨p0, p1, p2, p3, rfl⟩ := hx'.form
    obtain ⟨q0, q1, q2, q3, rfl⟩ := hy'.form
    obtain ⟨rb, ro, rfl, hF1, hc⟩ := rown_at HG.out.2.2.2.2.1 hi1 hcs
    obtain ⟨sb, so, rfl, hF2, hd⟩ := rown_at HG.out.2.2.2.2.2.1 hj1 hds
    have HR := hide (And.intro (HF.out _ hF1) (And.intro (HF.out _ hF2) (And.intro hc hd)))
    have hrb : rb < w.heap.size := HF.out _ hF1
    have hsb : sb < w.heap.size := HF.out _ hF2
    clear hcs hds hc hd hF1 hF2

    have sc0 := (ec _ _ HR.out.1).trans (HR.out.2.2.1 0 _ rfl)
    have sc1 := (ec _ _ HR.out.1).trans (HR.out.2.2.1 1 _ rfl)
    have sc2 := (ec _ _ HR.out.1).trans (HR.out.2.2.1 2 _ rfl)
    have sc3 := (ec _ _ HR.out.1).trans (HR.out.2.2.1 3 _ rfl)
    have tc0 := (ec _ _ HR.out.2.1).trans (HR.out.2.2.2 0 _ rfl)
    have tc1 := (ec _ _ HR.out.2.1).trans (HR.out.2.2.2 1 _ rfl)
    have tc2 := (ec _ _ HR.out.2.1).trans (HR.out.2.2.2 2 _ rfl)
    have tc3 := (ec _ _ HR.out.2.1).trans (HR.out.2.2.2 3 _ rfl)
    rw [Nat.add_zero] at sc0 tc0
    obtain ⟨v, hv⟩ : ∃ v, decide (E.cmp a b < 0) = v := ⟨_, rfl⟩
    obtain ⟨v2, hv2⟩ : ∃ v2, decide (E.cmp b a < 0) = v2 := ⟨_, rfl⟩
    have HL := hide fun (W : World) (hb : Below w.heap.size w W) => less_calls ((hx'.mono HF.out : PEAt (Old w) w _ _).at_ hb) ((hy'.mono HF.out : PEAt (Old w) w _ _).at_ hb)
    have HL2 := hide fun (W : World) (hb : Below w.heap.size w W) => less_calls ((hy'.mono HF.out : PEAt (Old w) w _ _).at_ hb) ((hx'.mono HF.out : PEAt (Old w) w _ _).at_ hb)
    rw [hv] at HL
    rw [hv2] at HL2
    have Hv := hide (And.intro hv hv2)
    have Heq := hide heq
    have Hxy := hide (And.intro hx' hy')
    clear hv hv2 heq ec hx' hy'
    go_wp2_with fail
    go_still_tail 14, (by kernel_rfl)
    change wpList _ _ _ _ _ wo.drew
    go_wp2_with fail
    refine (HL.out wo.drew (below_drew Hm.out.below)).mono ?_
    rintro en w1 ⟨rfl, hb1⟩
    have Hm1 := hide (Hm.out.at_ (fun h k => h.keeps k) (fun h k => h.mono k) (below_drew' hb1))
    clear hb1 Hm o0 ol s0 t0 sc0 sc1 sc2 sc3 tc0 tc1 tc2 tc3 HL hwe
    have Hm := Hm1
    clear Hm1
    have ec := (bcell Hm.out.below).1
    have s0 := (ec _ 0 HG.out.1).trans HG.out.2.2.1
    have t0 := (ec _ 0 HG.out.2.1).trans HG.out.2.2.2.1
    have o0 := Hm.out.bk.cell 0
    have ol := Hm.out.bk.lt
    have hwe : w.heap.size < w1.heap.size := ol
    simp at o0
    have sc0 := (ec _ _ HR.out.1).trans (HR.out.2.2.1 0 _ rfl)
    have sc1 := (ec _ _ HR.out.1).trans (HR.out.2.2.1 1 _ rfl)
    have sc2 := (ec _ _ HR.out.1).trans (HR.out.2.2.1 2 _ rfl)
    have sc3 := (ec _ _ HR.out.1).trans (HR.out.2.2.1 3 _ rfl)
    have tc0 := (ec _ _ HR.out.2.1).trans (HR.out.2.2.2 0 _ rfl)
    have tc1 := (ec _ _ HR.out.2.1).trans (HR.out.2.2.2 1 _ rfl)
    have tc2 := (ec _ _ HR.out.2.1).trans (HR.out.2.2.2 2 _ rfl)
    have tc3 := (ec _ _ HR.out.2.1).trans (HR.out.2.2.2 3 _ rfl)
    rw [Nat.add_zero] at sc0 tc0
    clear ec
    cases v
    ·skip
     go_wp2_with fail
     go_still_tail 14, (by kernel_rfl)
     change wpList _ _ _ _ _ w1.drew
     go_wp2_with fail
     refine (HL2.out w1.drew (below_drew Hm.out.below)).mono ?_
     rintro en w5 ⟨rfl, hb5⟩
     have Hm5 := hide (Hm.out.at_ (fun h k => h.keeps k) (fun h k => h.mono k) (below_drew' hb5))
     clear hb5 o0 ol s0 t0 sc0 sc1 sc2 sc3 tc0 tc1 tc2 tc3 HL2 hwe
     cases v2
     ·clear Hm
      have Hm := Hm5
      clear Hm5
      have ec := (bcell Hm.out.below).1
      have s0 := (ec _ 0 HG.out.1).trans HG.out.2.2.1
      have t0 := (ec _ 0 HG.out.2.1).trans HG.out.2.2.2.1
      have o0 := Hm.out.bk.cell 0
      have ol := Hm.out.bk.lt
      have hwe : w.heap.size < w5.heap.size := ol
      simp at o0
      have sc0 := (ec _ _ HR.out.1).trans (HR.out.2.2.1 0 _ rfl)
      have sc1 := (ec _ _ HR.out.1).trans (HR.out.2.2.1 1 _ rfl)
      have sc2 := (ec _ _ HR.out.1).trans (HR.out.2.2.1 2 _ rfl)
      have sc3 := (ec _ _ HR.out.1).trans (HR.out.2.2.1 3 _ rfl)
      have tc0 := (ec _ _ HR.out.2.1).trans (HR.out.2.2.2 0 _ rfl)
      have tc1 := (ec _ _ HR.out.2.1).trans (HR.out.2.2.2 1 _ rfl)
      have tc2 := (ec _ _ HR.out.2.1).trans (HR.out.2.2.2 2 _ rfl)
      have tc3 := (ec _ _ HR.out.2.1).trans (HR.out.2.2.2 3 _ rfl)
      rw [Nat.add_zero] at sc0 tc0
      clear ec
      go_wp2_with fail
      obtain ⟨S, hS⟩ : ∃ S, MES w.heap.size g rb (ro + i * 4) (.slice oA n oc) (.slice (some ⟨rb, ro, none⟩) M mc) (.pointer p0) (.pointer p1) (.pointer p2) (.pointer p3) = S := ⟨_, rfl⟩
      have hS0 : S w5.drew := by rw [← hS]; exact ⟨o0, s0, sc0, sc1, sc2, sc3⟩
      refine wp_region_head 14 S (by rfl) (by kernel_rfl) ?_
      have hX := hide (show ∀ W : World, S W → MES w.heap.size g rb (ro + i * 4) (.slice oA n oc) (.slice (some ⟨rb, ro, none⟩) M mc) (.pointer p0) (.pointer p1) (.pointer p2) (.pointer p3) W from fun W hSw => by rw [← hS] at hSw; exact hSw)
      iterate 12
       refine HT.nx (v := ?_) rfl (by kernel_rfl) (fun _ _ _ h => h) (Or.inl ⟨by rfl, ?_⟩) ‹_› ?_
       rotate_left
       ·intro W hSw; obtain ⟨s0, s1, s2, s3, s4, s5⟩ := hX.out W hSw; go_simp; with_reducible rfl
       simp only [Act.put, zzA, zzZ, zzS]
      clear hX
      refine HT.one 12 rfl (by kernel_rfl) (by rfl) (fun K hK => ?_)
      go_simp
      have hbA : Below w5.heap.size w5 (w5.drew.alloc (.cells #[.pointer p0, .pointer p1, .pointer p2, .pointer p3] 109)) := (below_drew (Below.refl _ _)).alloc (Nat.le_refl _) _
      have hS1 : S (w5.drew.alloc (.cells #[.pointer p0, .pointer p1, .pointer p2, .pointer p3] 109)) := by
       rw [← hS] at hS0 ⊢
       exact hS0.to (fun k => (bcell hbA).1 _ _ (by omega)) (fun k => (bcell hbA).1 _ _ (by omega)) (fun k => (bcell hbA).1 _ _ (by omega))
      refine hK.out _ _ hS1 ?_
      clear hK K
      refine HT.one 13 rfl (by kernel_rfl) (by rfl) (fun K hK => ?_)
      have hmA := Hm.out.at_ (fun h k => h.keeps k) (fun h k => h.mono k) hbA
      refine wp_append_row _ (.tmp 63) (.tmp 71) 122 rfl (w.heap.size + 1) 109 i9 _ 4 32 Tryz.underlying122 hi9 hz9 hs9 hb9 rfl (by omega) (.slice oA n oc) n us rfl (by have q := hmA.own; rw [Hn.out] at q; exact q) (fun _ => True) (some ⟨w5.heap.size, 0, none⟩) 1 1 [.pointer p0, .pointer p1, .pointer p2, .pointer p3] rfl (Row.of_bkp (Bk.new w5.drew 109 ([.pointer p0, .pointer p1, .pointer p2, .pointer p3] : List Value).toArray) rfl trivial) (by simp [Value.oneCell']) (by omega) (by omega) (by show w.heap.size + 1 ≤ (w5.alloc (.cells #[.pointer p0, .pointer p1, .pointer p2, .pointer p3] 109)).heap.size; rw [World.size_alloc]; omega) ?_
      intro v' w3 hown3 hg3 hat3
      have hlo3 := hmA.own.lt
      have hstep := hmA.step HF.out (add := [a]) (fun h k => h.keeps k) (fun h k => h.mono k) (by rw [Hn.out]; exact hown3) hg3 hat3 (Cells.one ((Hxy.out.1.keeps (Keeps.below hmA.below HF.out)).mono (Apart.old HF.out hmA)) rfl)
      have hsz3 : w5.heap.size + 1 ≤ w3.heap.size := by have h1 : (w5.alloc (.cells #[.pointer p0, .pointer p1, .pointer p2, .pointer p3] 109)).heap.size ≤ w3.heap.size := hg3.size; rw [World.size_alloc] at h1; exact h1
      have hne : ∀ b, b ≤ w.heap.size → some b ≠ (Value.slice oA n oc).ownBlock := fun b hb e => by have := (hlo3 b e.symm).1; omega
      have hS3 : S w3 := by
       rw [← hS] at hS1 ⊢
       have hlt : ∀ b, b < w5.heap.size → b < (w5.drew.alloc (.cells #[.pointer p0, .pointer p1, .pointer p2, .pointer p3] 109)).heap.size := fun b hb => by rw [World.size_alloc]; show b < w5.heap.size + 1; omega
       exact hS1.to (fun k => (gcell hg3).1 _ _ (hlt _ (by omega)) (hne _ (by omega))) (fun k => (gcell hg3).1 _ _ (hlt _ (by omega)) (hne _ (by omega))) (fun k => (gcell hg3).1 _ _ (hlt _ (by omega)) (hne _ (by omega)))
      go_simp
      refine hK.out _ _ hS3 ?_
      clear hK K
      refine HT.done (by kernel_rfl) ?_
      simp only [List.drop_succ_cons, List.drop_zero]
      have hO3 : Bk w3 w.heap.size 124 #[.slice oA n oc] := hmA.bk.grown hg3 (hne _ (Nat.le_refl _))
      have z0 := hO3.cell 0
      have z1 := hO3.free 0
      simp at z0
      obtain ⟨nA, nc, rfl, _, _⟩ := own_form hown3
      have Hs := hide (And.intro hstep hsz3)
      clear hS0 hS1 hS3 hS hbA hmA hown3 hg3 hat3 hlo3 hstep hsz3 hne hO3
      clear o0 s0 t0 sc0 sc1 sc2 sc3 tc0 tc1 tc2 tc3
      go_wp2_with fail
      exact ⟨⟨i + 1, j + 1, done ++ [a], _, _, by go_num, by go_num, by rw [HM.out.1]; omega, by rw [HM.out.2]; omega, by rw [List.length_append, Hn.out]; show n + 1 ≤ _; omega, by rw [Heq.out, if_neg (by simpa using Hv.out.1), if_neg (by simpa using Hv.out.2)]; simp [SOp.el, SOp.meet], Hs.out.1⟩, by simp [intOf]; have := HM.out.1; have := HM.out.2; omega⟩
     ·go_wp2_with fail
      exact ⟨⟨i, j + 1, done, _, _, by go_num, by go_num, by rw [HM.out.1]; omega, by rw [HM.out.2]; omega, by rw [Hn.out]; omega, by rw [Heq.out, if_neg (by simpa using Hv.out.1), if_pos (by simpa using Hv.out.2)]; simp [SOp.meet], Hm5.out⟩, by simp [intOf]; have := HM.out.1; have := HM.out.2; omega⟩
    ·go_wp2_with fail
     exact ⟨⟨i + 1, j, done, _, _, by go_num, by go_num, by rw [HM.out.1]; omega, by rw [HM.out.2]; omega, by rw [Hn.out]; omega, by rw [Heq.out, if_pos (by simpa using Hv.out.1)]; simp [SOp.meet], Hm.out⟩, by simp [intOf]; have := HM.out.1; have := HM.out.2; omega⟩
   ·have hkj1 : ¬ (j : Int) < (M1 : Int) := by omega
    have hki1 : (i : Int) < (M : Int) := by omega
    rw [mrg_end_r (show m'.length ≤ j by rw [HM.out.2]; omega)] at heq
    have Heq := hide heq
    clear heq ec
    go_wp2
    go_ret
    exact ⟨rfl, _, _, by have e : R = done := (HRR.out.symm.trans Heq.out).trans (by simp [SOp.meet]); rw [e]; exact Hm.out⟩
  ·have hki1 : ¬ (i : Int) < (M : Int) := by omega
   rw [mrg_end_l (show m.length ≤ i by rw [HM.out.1]; omega)] at heq
   have Heq := hide heq
   clear heq ec
   go_wp2
   go_ret
   exact ⟨rfl, _, _, by have e : R = done := (HRR.out.symm.trans Heq.out).trans (by simp [SOp.meet]); rw [e]; exact Hm.out⟩

end Go.Proofs.YtbicoknghdgahaaGreat

namespace Go.Proofs.YtbicoknghdgahaaGreat
open Go.RowKit
attribute [local go_sem] run_store_float

def NEInv (w : World) (ks : List (E × St)) (s : Value) (W : World) : Prop := ∃ k : Nat, s = .int .i64 (k : Int) ∧ k ≤ ks.length ∧ (∀ x ∈ ks.take k, x.2.emp = true) ∧ Below w.heap.size w W

set_option maxRecDepth 100000 in
set_option maxHeartbeats 4000000 in
theorem nmEmpty_calls {ks : List (E × St)} (IH : ∀ k ∈ ks, ∀ {W : World} {gk : Nat}, SetR (Old W) W gk k.2 → Calls Tryz.prog 200 #[.pointer (some ⟨gk, 0, none⟩)] W (EqPost k.2.emp W))
  {w : World} {g : Nat} {KA : Option Addr} {kc : Nat} {ys : List Value} (m0 : w.cell? ⟨g, 1, none⟩ = some (.slice KA ks.length kc)) (hg : g < w.heap.size) (h47 : ks.length * 40 ≤ R47) (hr : Row (Old w) w 5 KA ks.length ys) (hx : Cells 5 (KQ (Old w) w) ks ys) :
  Calls Tryz.prog 223 #[.pointer (some ⟨g, 1, none⟩)] w (EqPost (St.emp.empK ks) w) := by
 have h47' : ks.length * 40 ≤ 140737488351232 := h47
 have H7 := hide (And.intro hr (And.intro hx (And.intro m0 hg)))
 have Hih := hide IH
 obtain ⟨r, hrr⟩ : ∃ r, St.emp.empK ks = r := ⟨_, rfl⟩
 rw [hrr]
 have Hr := hide hrr
 clear hr hx hrr IH h47
 go_enter Tryz.func223, Tryz.ntmps223
 go_wp2_with fail
 clear m0
 go_loopw [10] (fun s W => NEInv w ks s W) (fun s _ => ks.length - (intOf s).toNat)
 case atStart => exact ⟨0, rfl, Nat.zero_le _, by simp, Below.refl _ _⟩
 case round =>
  obtain ⟨k, rfl, hk, hall, hb⟩ := hrel
  by_cases hlt : k < ks.length
  ·have hki0 : (0 : Int) ≤ (k : Int) := Int.natCast_nonneg _
   have hki1 : (k : Int) < (ks.length : Int) := by omega
   have hx := H7.out.2.1.at_ hlt
   have hmem := List.getElem_mem hlt
   have hsn : ks.take (k + 1) = ks.take k ++ [ks[k]] := List.take_succ_eq_append_getElem hlt
   generalize ks[k] = fx at *
   generalize hcs : (ys.drop (k * 5)).take 5 = fcs at hx
   obtain ⟨p0, p1, p2, p3, gk, rfl, hpe, hset⟩ := hx.form
   obtain ⟨rb, ro, rfl, hF, hc⟩ := rown_at H7.out.1 hlt hcs
   have ec := (bcell hb).1
   have q0 := (ec _ _ hF).trans (hc 0 _ rfl)
   have q1 := (ec _ _ hF).trans (hc 1 _ rfl)
   have q2 := (ec _ _ hF).trans (hc 2 _ rfl)
   have q3 := (ec _ _ hF).trans (hc 3 _ rfl)
   have q4 := (ec _ _ hF).trans (hc 4 _ rfl)
   rw [Nat.add_zero] at q0
   have hrb : rb < w.heap.size := hF
   have HE := hide fun (W : World) (hb : Below w.heap.size w W) => Hih.out fx hmem (hset.at_ hb)
   have Hq := hide (And.intro hall (And.intro hb (And.intro hsn hmem)))
   have hwe : w.heap.size ≤ wr.heap.size := hb.size
   clear hall hb hsn hmem hx hset hpe hcs hc ec hF
   obtain ⟨wo, hwo⟩ : ∃ W, W = wr := ⟨_, rfl⟩
   subst hwo
   obtain ⟨v, hv⟩ : ∃ v, fx.2.emp = v := ⟨_, rfl⟩
   rw [hv] at HE
   have Hv := hide hv
   clear hv
   go_upto_region 4 with fail
   have hbA : Below wo.heap.size wo (wo.alloc (.cells #[.pointer p0, .pointer p1, .pointer p2, .pointer p3, .pointer (some ⟨gk, 0, none⟩)] 214)) := (Below.refl _ _).alloc (Nat.le_refl _) _
   have hX := Bk.new wo 214 #[.pointer p0, .pointer p1, .pointer p2, .pointer p3, .pointer (some ⟨gk, 0, none⟩)]
   clear q0 q1 q2 q3 q4
   generalize hw1 : World.alloc wo _ = w1 at hbA hX ⊢
   have x4 := hX.cell 4
   simp at x4
   have H1 := hide (Hq.out.2.1.trans (hbA.mono hwe))
   clear hw1 hbA hX
   go_wp2_with fail
   refine (HE.out w1 H1.out).mono ?_
   rintro en w2 ⟨rfl, hb2⟩
   have H2 := hide (H1.out.trans (hb2.mono H1.out.size))
   clear hb2 HE H1 x4
   cases v
   ·have e1 : r = false := by
     rw [← Hr.out]
     cases he : St.emp.empK ks
     ·rfl
     ·have := empK_iff.1 he fx Hq.out.2.2.2
      rw [Hv.out] at this
      cases this
    subst e1
    go_wp2
    go_ret
    exact ⟨rfl, H2.out⟩
   have Hfin := hide (And.intro (show ∀ x ∈ ks.take (k + 1), x.2.emp = true from by
    rw [Hq.out.2.2.1]
    intro x hx
    rcases List.mem_append.1 hx with hx | hx
    ·exact Hq.out.1 x hx
    ·rw [List.mem_singleton.1 hx]; exact Hv.out) H2.out)
   clear Hq H2
   go_wp2_with fail
   exact ⟨⟨k + 1, by go_num, by omega, Hfin.out.1, Hfin.out.2⟩, by simp [intOf]; omega⟩
  ·have hke : k = ks.length := by omega
   subst hke
   have hki1 : ¬ ((ks.length : Nat) : Int) < (ks.length : Int) := by omega
   rw [List.take_of_length_le (Nat.le_refl _)] at hall
   have e1 : r = true := by rw [← Hr.out]; exact empK_iff.2 hall
   subst e1
   have H3 := hide hb
   clear hall hb Hr
   go_wp2
   go_ret
   exact ⟨rfl, H3.out⟩

theorem emp_parts {m : List E} {ks : List (E × St)} : (St.mk m ks).emp = (m.isEmpty && St.emp.empK ks) := by rw [St.emp]

set_option maxRecDepth 100000 in
set_option maxHeartbeats 4000000 in
theorem setEmptyAll : ∀ (s : St) {w : World} {g : Nat}, SetR (Old w) w g s → Calls Tryz.prog 200 #[.pointer (some ⟨g, 0, none⟩)] w (EqPost s.emp w)
 | .mk m ks, w, g, h => by
  have IH : ∀ k ∈ ks, ∀ {W : World} {gk : Nat}, SetR (Old W) W gk k.2 → Calls Tryz.prog 200 #[.pointer (some ⟨gk, 0, none⟩)] W (EqPost k.2.emp W) :=
   fun k hk _ _ hs => have hlt : SizeOf.sizeOf k.2 < SizeOf.sizeOf (St.mk m ks) := kid_lt (s := .mk m ks) hk; setEmptyAll k.2 hs
  obtain ⟨MA, KA, mc, kc, xs, ys, a1, a2, a3, a4, a5, a6, a7, a8, a9, a10, a11, a12⟩ := h.parts
  simp only [St.mem, St.kids] at a2 a3 a4 a5 a7 a9 a10 a11 a12
  have ga0 := a2.cell 0
  have ga1 := a2.cell 1
  simp at ga0 ga1
  have hg : g < w.heap.size := a1
  have HS := hide (esSizeC_calls (w := w) (g := g) (o := 0) ga0)
  have HN := hide (nmEmpty_calls (w := w) IH ga1 hg a4 a10 a12)
  rw [emp_parts]
  obtain ⟨v, hv⟩ : ∃ v, St.emp.empK ks = v := ⟨_, rfl⟩
  rw [hv] at HN ⊢
  have hm47 : m.length * 32 ≤ 140737488351232 := a3
  clear h IH a1 a2 a3 a4 a5 a6 a7 a8 a9 a10 a11 a12 ga0 ga1 hv
  by_cases hm : m = []
  ·subst hm
   show Calls _ _ _ _ (EqPost v w)
   have HS' := HS
   have HN' := HN
   rw [show ([] : List E).length = 0 from rfl] at HS'
   clear HS HN
   go_enter Tryz.func200, Tryz.ntmps200
   go_wp2_with fail
   refine HS'.out.mono ?_
   rintro en w1 ⟨rfl, rfl⟩
   rw [show ((0 : Nat) : Int) = 0 from rfl]
   go_wp2_with fail
   refine HN'.out.mono ?_
   rintro en w2 ⟨rfl, hb2⟩
   have H2 := hide hb2
   clear hb2 HN' HS'
   go_wp2
   go_ret
   exact ⟨rfl, H2.out⟩
  ·have e1 : (m.isEmpty && v) = false := by cases m with | nil => exact absurd rfl hm | cons a m => rfl
   rw [e1]
   have hm0 : 0 < m.length := by cases m with | nil => exact absurd rfl hm | cons a m => simp
   have hmi : (0 : Int) < (m.length : Int) := by omega
   have HS' := HS
   clear HS HN hm e1
   generalize m.length = n at *
   go_enter Tryz.func200, Tryz.ntmps200
   go_wp2_with fail
   refine HS'.out.mono ?_
   rintro en w1 ⟨rfl, rfl⟩
   clear HS'
   go_wp2
   go_ret
   exact ⟨rfl, Below.refl _ _⟩
termination_by s => s
decreasing_by assumption
theorem setEmpty_calls {s : St} {w : World} {g : Nat} (h : SetR (Old w) w g s) : Calls Tryz.prog 200 #[.pointer (some ⟨g, 0, none⟩)] w (EqPost s.emp w) := setEmptyAll s h

end Go.Proofs.YtbicoknghdgahaaGreat
