/- Parts: MrgKI, MrgSI. -/
import Derived.Test.YtbicoknghdgahaaGreatKJ05
set_option linter.unusedVariables false
set_option linter.unusedSimpArgs false
namespace Go.Proofs.YtbicoknghdgahaaGreat
open Go.RowKit
attribute [local go_sem] run_store_float

set_option maxRecDepth 100000 in
set_option maxHeartbeats 16000000 in
theorem nmIntersection_calls {u : St → St → St} {P P' : St → Prop} (IH : ∀ {F : Nat → Prop} {W : World} {ga gb : Nat} {s t : St}, (∀ b, F b → b < W.heap.size) → SetR F W ga s → SetR F W gb t → P s → P' t → Calls Tryz.prog 102 #[.pointer (some ⟨ga, 0, none⟩), .pointer (some ⟨gb, 0, none⟩)] W (GivesF F (u s t) W))
  {F : Nat → Prop} {w : World} {g g' : Nat} {m m' : List (E × St)} {MA MB : Option Addr} {mc md : Nat} {xs ys : List Value} (hP : ∀ k ∈ m, P k.2) (hP' : ∀ k ∈ m', P' k.2) (hF : ∀ b, F b → b < w.heap.size) (hg : g < w.heap.size) (hg' : g' < w.heap.size) (m0 : w.cell? ⟨g, 1, none⟩ = some (.slice MA m.length mc)) (n0 : w.cell? ⟨g', 1, none⟩ = some (.slice MB m'.length md))
  (hmc : m.length ≤ mc) (hmd : m'.length ≤ md) (hr : Row F w 5 MA m.length xs) (hr' : Row F w 5 MB m'.length ys) (hx : Cells 5 (KQ F w) m xs) (hy : Cells 5 (KQ F w) m' ys) (h47 : (m.length + m'.length) * 40 ≤ R47) :
  Calls Tryz.prog 156 #[.pointer (some ⟨g, 1, none⟩), .pointer (some ⟨g', 1, none⟩)] w (fun en w' => en = .returned (.pointer (some ⟨w.heap.size, 0, none⟩)) ∧ ∃ s us, Mg 5 128 214 KQ F w (mrg kcmp SOp.meet.kl SOp.meet.kr (SOp.meet.kid u) m m') s w' us) := by
 have h47' : (m.length + m'.length) * 40 ≤ 140737488351232 := h47
 obtain ⟨i9, hi9, hz9, hs9, hb9⟩ := info_parts node_info
 obtain ⟨M, hM⟩ : ∃ M, m.length = M := ⟨_, rfl⟩
 obtain ⟨M1, hM1⟩ : ∃ M1, m'.length = M1 := ⟨_, rfl⟩
 have HM := hide (And.intro hM hM1)
 rw [hM] at m0 hmc hr h47'
 rw [hM1] at n0 hmd hr' h47'
 have HG := hide (And.intro hg (And.intro hg' (And.intro m0 (And.intro n0 (And.intro hr (And.intro hr' (And.intro hx hy)))))))
 obtain ⟨R, hR⟩ : ∃ R, mrg kcmp SOp.meet.kl SOp.meet.kr (SOp.meet.kid u) m m' = R := ⟨_, rfl⟩
 rw [hR]
 have HRR := hide hR
 have HF := hide hF
 have HP := hide (And.intro hP hP')
 clear hr hr' hx hy h47 hM hM1 hR hF hP hP'
 have hb0 : Below w.heap.size w (w.alloc (.cells #[.slice none 0 0] 128)) := (Below.refl _ _).alloc (Nat.le_refl _) _
 have hm0 : Mg 5 128 214 KQ F w ([] : List (E × St)) (.slice none 0 0) (w.alloc (.cells #[.slice none 0 0] 128)) [] := Mg.start hb0 (Bk.new _ _ _)
 have Hm0 := hide hm0
 clear hm0 hb0
 go_enter Tryz.func156, Tryz.ntmps156
 go_wp2_with fail
 go_loopw [6, 7] (fun s6 s7 W => MKInv SOp.meet.kl SOp.meet.kr (SOp.meet.kid u) F w m m' s6 s7 W) (fun s6 s7 _ => (m.length - (intOf s6).toNat) + (m'.length - (intOf s7).toNat))
 case atStart => exact ⟨0, 0, [], _, [], rfl, rfl, Nat.zero_le _, Nat.zero_le _, Nat.le_refl _, rfl, Hm0.out⟩
 case round =>
  clear m0 n0
  obtain ⟨i, j, done, s, us, rfl, rfl, hi, hj, hdl, heq, hm⟩ := hrel
  rw [HM.out.1] at hi
  rw [HM.out.2] at hj
  have hki0 : (0 : Int) ≤ (i : Int) := Int.natCast_nonneg _
  have hkj0 : (0 : Int) ≤ (j : Int) := Int.natCast_nonneg _
  obtain ⟨n, hn⟩ : ∃ n, done.length = n := ⟨_, rfl⟩
  have hown := hm.own
  rw [hn] at hdl hown
  obtain ⟨oA, oc, rfl, hoc1, hoc2⟩ := own_form hown
  have Hn := hide hn
  have Hm := hide hm
  clear hn hown hm
  obtain ⟨wo, hwo⟩ : ∃ W, W = wr := ⟨_, rfl⟩
  subst hwo
  have ec := (bcell Hm.out.below).1
  have s0 := (ec _ 1 HG.out.1).trans HG.out.2.2.1
  have t0 := (ec _ 1 HG.out.2.1).trans HG.out.2.2.2.1
  have o0 := Hm.out.bk.cell 0
  have ol := Hm.out.bk.lt
  have hwe : w.heap.size < wo.heap.size := ol
  simp at o0
  by_cases hi1 : i < M
  ·by_cases hj1 : j < M1
   ·have hki1 : (i : Int) < (M : Int) := by omega
    have hkj1 : (j : Int) < (M1 : Int) := by omega
    have hx' := HG.out.2.2.2.2.2.2.1.at_ (show i < m.length by rw [HM.out.1]; exact hi1)
    have hy' := HG.out.2.2.2.2.2.2.2.at_ (show j < m'.length by rw [HM.out.2]; exact hj1)
    rw [mrg_drop (show i < m.length by rw [HM.out.1]; exact hi1) (show j < m'.length by rw [HM.out.2]; exact hj1)] at heq
    have hPa := HP.out.1 _ (List.getElem_mem (show i < m.length by rw [HM.out.1]; exact hi1))
    have hPb := HP.out.2 _ (List.getElem_mem (show j < m'.length by rw [HM.out.2]; exact hj1))
    generalize m[i]'(by rw [HM.out.1]; exact hi1) = a at *
    generalize m'[j]'(by rw [HM.out.2]; exact hj1) = b at *
    generalize hcs : (xs.drop (i * 5)).take 5 = fcs at hx'
    generalize hds : (ys.drop (j * 5)).take 5 = gcs at hy'
    have hxk := hx'
    have hyk := hy'
    obtain ⟨p0, p1, p2, p3, pg, rfl, hxe, hxs⟩ := hx'.form
    obtain ⟨q0, q1, q2, q3, qg, rfl, hye, hys⟩ := hy'.form
    obtain ⟨rb, ro, rfl, hF1, hc⟩ := rown_at HG.out.2.2.2.2.1 hi1 hcs
    obtain ⟨sb, so, rfl, hF2, hd⟩ := rown_at HG.out.2.2.2.2.2.1 hj1 hds
    have HR := hide (And.intro (HF.out _ hF1) (And.intro (HF.out _ hF2) (And.intro hc hd)))
    have HLT := hide (show g < w.heap.size ∧ g' < w.heap.size ∧ rb < w.heap.size ∧ sb < w.heap.size from ⟨HG.out.1, HG.out.2.1, HF.out _ hF1, HF.out _ hF2⟩)
    have hrb : rb < w.heap.size := HF.out _ hF1
    have hsb : sb < w.heap.size := HF.out _ hF2
    clear hcs hds hc hd hF1 hF2
    have sc0 := (ec _ _ HR.out.1).trans (HR.out.2.2.1 0 _ rfl)
    have sc1 := (ec _ _ HR.out.1).trans (HR.out.2.2.1 1 _ rfl)
    have sc2 := (ec _ _ HR.out.1).trans (HR.out.2.2.1 2 _ rfl)
    have sc3 := (ec _ _ HR.out.1).trans (HR.out.2.2.1 3 _ rfl)
    have sc4 := (ec _ _ HR.out.1).trans (HR.out.2.2.1 4 _ rfl)
    have tc0 := (ec _ _ HR.out.2.1).trans (HR.out.2.2.2 0 _ rfl)
    have tc1 := (ec _ _ HR.out.2.1).trans (HR.out.2.2.2 1 _ rfl)
    have tc2 := (ec _ _ HR.out.2.1).trans (HR.out.2.2.2 2 _ rfl)
    have tc3 := (ec _ _ HR.out.2.1).trans (HR.out.2.2.2 3 _ rfl)
    have tc4 := (ec _ _ HR.out.2.1).trans (HR.out.2.2.2 4 _ rfl)
    rw [Nat.add_zero] at sc0 tc0
    obtain ⟨v, hv⟩ : ∃ v, decide (E.cmp a.1 b.1 < 0) = v := ⟨_, rfl⟩
    obtain ⟨v2, hv2⟩ : ∃ v2, decide (E.cmp b.1 a.1 < 0) = v2 := ⟨_, rfl⟩
    have HL := hide fun (W : World) (hb : Below w.heap.size w W) => less_calls ((hxe.mono HF.out : PEAt (Old w) w _ _).at_ hb) ((hye.mono HF.out : PEAt (Old w) w _ _).at_ hb)
    have HL2 := hide fun (W : World) (hb : Below w.heap.size w W) => less_calls ((hye.mono HF.out : PEAt (Old w) w _ _).at_ hb) ((hxe.mono HF.out : PEAt (Old w) w _ _).at_ hb)
    have HU := hide fun (W : World) (hb : Below w.heap.size w W) => IH (F := F) (W := W) (fun b hb' => Nat.lt_of_lt_of_le (HF.out b hb') hb.size) (hxs.keeps (Keeps.below hb HF.out)) (hys.keeps (Keeps.below hb HF.out)) hPa hPb
    rw [hv] at HL
    rw [hv2] at HL2
    have Hv := hide (And.intro hv hv2)
    have Heq := hide heq
    have HK := hide (And.intro hxk hyk)
    have HE := hide hxe
    clear hv hv2 heq ec hx' hy' hxk hyk hxe hye hxs hys hPa hPb
    go_wp2_with fail
    go_still_tail 16, (by kernel_rfl)
    change wpList _ _ _ _ _ wo.drew
    go_wp2_with fail
    refine (HL.out wo.drew (below_drew Hm.out.below)).mono ?_
    rintro en w5 ⟨rfl, hb5⟩
    have Hm5 := hide (Hm.out.at_ (fun h k => h.keeps k) (fun h k => h.mono k) (below_drew' hb5))
    clear hb5 o0 ol s0 t0 sc0 sc1 sc2 sc3 sc4 tc0 tc1 tc2 tc3 tc4 HL hwe Hm
    have Hm := Hm5
    clear Hm5
    have ec := (bcell Hm.out.below).1
    have s0 := (ec _ 1 HG.out.1).trans HG.out.2.2.1
    have t0 := (ec _ 1 HG.out.2.1).trans HG.out.2.2.2.1
    have o0 := Hm.out.bk.cell 0
    have ol := Hm.out.bk.lt
    have hwe : w.heap.size < w5.heap.size := ol
    simp at o0
    have sc0 := (ec _ _ HR.out.1).trans (HR.out.2.2.1 0 _ rfl)
    have sc1 := (ec _ _ HR.out.1).trans (HR.out.2.2.1 1 _ rfl)
    have sc2 := (ec _ _ HR.out.1).trans (HR.out.2.2.1 2 _ rfl)
    have sc3 := (ec _ _ HR.out.1).trans (HR.out.2.2.1 3 _ rfl)
    have sc4 := (ec _ _ HR.out.1).trans (HR.out.2.2.1 4 _ rfl)
    have tc0 := (ec _ _ HR.out.2.1).trans (HR.out.2.2.2 0 _ rfl)
    have tc1 := (ec _ _ HR.out.2.1).trans (HR.out.2.2.2 1 _ rfl)
    have tc2 := (ec _ _ HR.out.2.1).trans (HR.out.2.2.2 2 _ rfl)
    have tc3 := (ec _ _ HR.out.2.1).trans (HR.out.2.2.2 3 _ rfl)
    have tc4 := (ec _ _ HR.out.2.1).trans (HR.out.2.2.2 4 _ rfl)
    rw [Nat.add_zero] at sc0 tc0
    clear ec
    generalize w5 = w1 at *
    cases v
    ·skip
     go_wp2_with fail
     go_still_tail 16, (by kernel_rfl)
     change wpList _ _ _ _ _ w1.drew
     go_wp2_with fail
     refine (HL2.out w1.drew (below_drew Hm.out.below)).mono ?_
     rintro en w5 ⟨rfl, hb5⟩
     have Hm5 := hide (Hm.out.at_ (fun h k => h.keeps k) (fun h k => h.mono k) (below_drew' hb5))
     clear hb5 o0 ol s0 t0 sc0 sc1 sc2 sc3 sc4 tc0 tc1 tc2 tc3 tc4 HL2 hwe Hm
     have Hm := Hm5
     clear Hm5
     generalize w5 = w6 at *
     cases v2
     ·skip
      have ec := (bcell Hm.out.below).1
      have s0 := (ec _ 1 HG.out.1).trans HG.out.2.2.1
      have t0 := (ec _ 1 HG.out.2.1).trans HG.out.2.2.2.1
      have o0 := Hm.out.bk.cell 0
      have ol := Hm.out.bk.lt
      have hwe : w.heap.size < w6.heap.size := ol
      simp at o0
      have sc0 := (ec _ _ HR.out.1).trans (HR.out.2.2.1 0 _ rfl)
      have sc1 := (ec _ _ HR.out.1).trans (HR.out.2.2.1 1 _ rfl)
      have sc2 := (ec _ _ HR.out.1).trans (HR.out.2.2.1 2 _ rfl)
      have sc3 := (ec _ _ HR.out.1).trans (HR.out.2.2.1 3 _ rfl)
      have sc4 := (ec _ _ HR.out.1).trans (HR.out.2.2.1 4 _ rfl)
      have tc0 := (ec _ _ HR.out.2.1).trans (HR.out.2.2.2 0 _ rfl)
      have tc1 := (ec _ _ HR.out.2.1).trans (HR.out.2.2.2 1 _ rfl)
      have tc2 := (ec _ _ HR.out.2.1).trans (HR.out.2.2.2 2 _ rfl)
      have tc3 := (ec _ _ HR.out.2.1).trans (HR.out.2.2.2 3 _ rfl)
      have tc4 := (ec _ _ HR.out.2.1).trans (HR.out.2.2.2 4 _ rfl)
      rw [Nat.add_zero] at sc0 tc0
      clear ec
      go_wp2_with fail
      go_still_tail 16, (by kernel_rfl)
      change wpList _ _ _ _ _ w6.drew
      go_wp2_with fail
      refine (HU.out w6.drew (below_drew Hm.out.below)).mono ?_
      rintro en w7 ⟨g5, rfl, hset5, hb5⟩
      have hb5' : Below w6.heap.size w6 w7 := below_drew' hb5
      have Hset := hide (show SetR (Apart F w (.slice oA n oc) w7) w7 g5 (u a.2 b.2) from hset5.mono fun b hb => Apart.new Hm.out hb5' b hb HF.out)
      have Hm7 := hide (Hm.out.at_ (fun h k => h.keeps k) (fun h k => h.mono k) hb5')
      have HEm := hide (setEmpty_calls (hset5.mono (G := Old w7) fun b hb => by
       rcases hb with h1 | h1
       ·have := HF.out b h1; have h2 := Hm.out.below.size; have h3 := hb5'.size; show b < w7.heap.size; omega
       ·exact h1.2))
      obtain ⟨v3, hv3⟩ : ∃ v3, (u a.2 b.2).emp = v3 := ⟨_, rfl⟩
      rw [hv3] at HEm
      have Hv3 := hide hv3
      clear hset5 hb5 hb5' hv3 Hm HU o0 ol s0 t0 sc0 sc1 sc2 sc3 sc4 tc0 tc1 tc2 tc3 tc4 hwe
      go_wp2_with fail
      refine HEm.out.mono ?_
      rintro en w8 ⟨rfl, hb8⟩
      have Hset8 := hide (show SetR (Apart F w (.slice oA n oc) w8) w8 g5 (u a.2 b.2) from (Hset.out.keeps (Keeps.below hb8 fun b hb => hb.2.1)).mono fun b hb => hb.below hb8)
      have Hm := hide (Hm7.out.at_ (fun h k => h.keeps k) (fun h k => h.mono k) hb8)
      clear hb8 HEm Hm7 Hset
      cases v3
      ·skip
       have ec := (bcell Hm.out.below).1
       have s0 := (ec _ 1 HG.out.1).trans HG.out.2.2.1
       have t0 := (ec _ 1 HG.out.2.1).trans HG.out.2.2.2.1
       have o0 := Hm.out.bk.cell 0
       have ol := Hm.out.bk.lt
       have hwe : w.heap.size < w8.heap.size := ol
       simp at o0
       have sc0 := (ec _ _ HR.out.1).trans (HR.out.2.2.1 0 _ rfl)
       have sc1 := (ec _ _ HR.out.1).trans (HR.out.2.2.1 1 _ rfl)
       have sc2 := (ec _ _ HR.out.1).trans (HR.out.2.2.1 2 _ rfl)
       have sc3 := (ec _ _ HR.out.1).trans (HR.out.2.2.1 3 _ rfl)
       have sc4 := (ec _ _ HR.out.1).trans (HR.out.2.2.1 4 _ rfl)
       have tc0 := (ec _ _ HR.out.2.1).trans (HR.out.2.2.2 0 _ rfl)
       have tc1 := (ec _ _ HR.out.2.1).trans (HR.out.2.2.2 1 _ rfl)
       have tc2 := (ec _ _ HR.out.2.1).trans (HR.out.2.2.2 2 _ rfl)
       have tc3 := (ec _ _ HR.out.2.1).trans (HR.out.2.2.2 3 _ rfl)
       have tc4 := (ec _ _ HR.out.2.1).trans (HR.out.2.2.2 4 _ rfl)
       rw [Nat.add_zero] at sc0 tc0
       clear ec
       go_wp2_with fail
       obtain ⟨S, hS⟩ : ∃ S, MKS w.heap.size g g' rb (ro + i * 5) sb (so + j * 5) (.slice oA n oc) (.slice (some ⟨rb, ro, none⟩) M mc) (.slice (some ⟨sb, so, none⟩) M1 md) (.pointer p0) (.pointer p1) (.pointer p2) (.pointer p3) (.pointer (some ⟨pg, 0, none⟩)) (.pointer q0) (.pointer q1) (.pointer q2) (.pointer q3) (.pointer (some ⟨qg, 0, none⟩)) = S := ⟨_, rfl⟩
       have hS0 : S w8.drew := by rw [← hS]; exact ⟨⟨o0, s0, t0⟩, ⟨sc0, sc1, sc2, sc3, sc4⟩, tc0, tc1, tc2, tc3, tc4⟩
       refine wp_region_head 17 S (by rfl) (by kernel_rfl) ?_
       have hX := hide (show ∀ W : World, S W → MKS w.heap.size g g' rb (ro + i * 5) sb (so + j * 5) (.slice oA n oc) (.slice (some ⟨rb, ro, none⟩) M mc) (.slice (some ⟨sb, so, none⟩) M1 md) (.pointer p0) (.pointer p1) (.pointer p2) (.pointer p3) (.pointer (some ⟨pg, 0, none⟩)) (.pointer q0) (.pointer q1) (.pointer q2) (.pointer q3) (.pointer (some ⟨qg, 0, none⟩)) W from fun W hSw => by rw [← hS] at hSw; exact hSw)
       iterate 15
        refine HT.nx (v := ?_) rfl (by kernel_rfl) (fun _ _ _ h => h) (Or.inl ⟨by rfl, ?_⟩) ‹_› ?_
        rotate_left
        ·intro W hSw; obtain ⟨⟨s0, s1, s2⟩, ⟨c0, c1, c2, c3, c4⟩, d0, d1, d2, d3, d4⟩ := hX.out W hSw; go_simp; with_reducible rfl
        simp only [Act.put, zzA, zzZ, zzS]
       clear hX
       refine HT.one 15 rfl (by kernel_rfl) (by rfl) (fun K hK => ?_)
       go_simp
       have hbA : Below w8.heap.size w8 (w8.drew.alloc (.cells #[.pointer p0, .pointer p1, .pointer p2, .pointer p3, .pointer (some ⟨g5, 0, none⟩)] 214)) := (below_drew (Below.refl _ _)).alloc (Nat.le_refl _) _
       have hS1 : S (w8.drew.alloc (.cells #[.pointer p0, .pointer p1, .pointer p2, .pointer p3, .pointer (some ⟨g5, 0, none⟩)] 214)) := by
        rw [← hS] at hS0 ⊢
        exact hS0.to HLT.out fun b k hb => (bcell hbA).1 _ _ (by omega)
       refine hK.out _ _ hS1 ?_
       clear hK K
       refine HT.one 16 rfl (by kernel_rfl) (by rfl) (fun K hK => ?_)
       have hmA := Hm.out.at_ (fun h k => h.keeps k) (fun h k => h.mono k) hbA
       refine wp_append_row _ (.tmp 88) (.tmp 99) 126 rfl (w.heap.size + 1) 214 i9 _ 5 40 Tryz.underlying126 hi9 hz9 hs9 hb9 rfl (by omega) (.slice oA n oc) n us rfl (by have q := hmA.own; rw [Hn.out] at q; exact q) (fun _ => True) (some ⟨w8.heap.size, 0, none⟩) 1 1 [.pointer p0, .pointer p1, .pointer p2, .pointer p3, .pointer (some ⟨g5, 0, none⟩)] rfl (Row.of_bkp (Bk.new w8.drew 214 ([.pointer p0, .pointer p1, .pointer p2, .pointer p3, .pointer (some ⟨g5, 0, none⟩)] : List Value).toArray) rfl trivial) (by simp [Value.oneCell']) (by omega) (by omega) (by show w.heap.size + 1 ≤ (w8.alloc (.cells #[.pointer p0, .pointer p1, .pointer p2, .pointer p3, .pointer (some ⟨g5, 0, none⟩)] 214)).heap.size; rw [World.size_alloc]; omega) ?_
       intro v' w3 hown3 hg3 hat3
       have hlo3 := hmA.own.lt
       have hstep := hmA.step HF.out (add := [(a.1, u a.2 b.2)]) (fun h k => h.keeps k) (fun h k => h.mono k) (by rw [Hn.out]; exact hown3) hg3 hat3 (Cells.one (KQ.mk_ (k := (a.1, u a.2 b.2)) ((HE.out.keeps (Keeps.below hmA.below HF.out)).mono (Apart.old HF.out hmA)) ((Hset8.out.keeps (Keeps.below hbA fun b hb => hb.2.1)).mono fun b hb => hb.below hbA)) rfl)
       have hsz3 : w8.heap.size + 1 ≤ w3.heap.size := by have h1 : (w8.alloc (.cells #[.pointer p0, .pointer p1, .pointer p2, .pointer p3, .pointer (some ⟨g5, 0, none⟩)] 214)).heap.size ≤ w3.heap.size := hg3.size; rw [World.size_alloc] at h1; exact h1
       have hne : ∀ b, b ≤ w.heap.size → some b ≠ (Value.slice oA n oc).ownBlock := fun b hb e => by have := (hlo3 b e.symm).1; omega
       have hS3 : S w3 := by
        rw [← hS] at hS1 ⊢
        exact hS1.to HLT.out fun b k hb => (gcell hg3).1 _ _ (by show b < (w8.alloc (.cells #[.pointer p0, .pointer p1, .pointer p2, .pointer p3, .pointer (some ⟨g5, 0, none⟩)] 214)).heap.size; rw [World.size_alloc]; omega) (hne _ hb)
       go_simp
       refine hK.out _ _ hS3 ?_
       clear hK K
       refine HT.done (by kernel_rfl) ?_
       simp only [List.drop_succ_cons, List.drop_zero]
       have hO3 : Bk w3 w.heap.size 128 #[.slice oA n oc] := hmA.bk.grown hg3 (hne _ (Nat.le_refl _))
       have z0 := hO3.cell 0
       have z1 := hO3.free 0
       simp at z0
       obtain ⟨nA, nc, rfl, _, _⟩ := own_form hown3
       have Hs := hide (And.intro hstep hsz3)
       clear hS0 hS1 hS3 hS hbA hmA hown3 hg3 hat3 hlo3 hstep hsz3 hne hO3
       clear o0 s0 t0 sc0 sc1 sc2 sc3 sc4 tc0 tc1 tc2 tc3 tc4
       go_wp2_with fail
       exact ⟨⟨i + 1, j + 1, done ++ [(a.1, u a.2 b.2)], _, _, by go_num, by go_num, by rw [HM.out.1]; omega, by rw [HM.out.2]; omega, by rw [List.length_append, Hn.out]; show n + 1 ≤ _; omega, by rw [Heq.out, if_neg (show ¬ kcmp a b < 0 by simpa [kcmp] using Hv.out.1), if_neg (show ¬ kcmp b a < 0 by simpa [kcmp] using Hv.out.2)]; simp [SOp.kid, SOp.meet, Hv3.out], Hs.out.1⟩, by simp [intOf]; have := HM.out.1; have := HM.out.2; omega⟩
      ·go_wp2_with fail
       exact ⟨⟨i + 1, j + 1, done, _, _, by go_num, by go_num, by rw [HM.out.1]; omega, by rw [HM.out.2]; omega, by rw [Hn.out]; omega, by rw [Heq.out, if_neg (show ¬ kcmp a b < 0 by simpa [kcmp] using Hv.out.1), if_neg (show ¬ kcmp b a < 0 by simpa [kcmp] using Hv.out.2)]; simp [SOp.kid, SOp.meet, Hv3.out], Hm.out⟩, by simp [intOf]; have := HM.out.1; have := HM.out.2; omega⟩
     ·skip
      go_wp2_with fail
      exact ⟨⟨i, j + 1, done, _, _, by go_num, by go_num, by rw [HM.out.1]; omega, by rw [HM.out.2]; omega, by rw [Hn.out]; omega, by rw [Heq.out, if_neg (show ¬ kcmp a b < 0 by simpa [kcmp] using Hv.out.1), if_pos (show kcmp b a < 0 by simpa [kcmp] using Hv.out.2)]; simp [SOp.meet], Hm.out⟩, by simp [intOf]; have := HM.out.1; have := HM.out.2; omega⟩
    ·skip
     go_wp2_with fail
     exact ⟨⟨i + 1, j, done, _, _, by go_num, by go_num, by rw [HM.out.1]; omega, by rw [HM.out.2]; omega, by rw [Hn.out]; omega, by rw [Heq.out, if_pos (show kcmp a b < 0 by simpa [kcmp] using Hv.out.1)]; simp [SOp.meet], Hm.out⟩, by simp [intOf]; have := HM.out.1; have := HM.out.2; omega⟩
   ·have hkj1 : ¬ (j : Int) < (M1 : Int) := by omega
    have hki1 : (i : Int) < (M : Int) := by omega
    rw [mrg_end_r (show m'.length ≤ j by rw [HM.out.2]; omega)] at heq
    have Heq := hide heq
    clear heq ec
    go_wp2
    go_ret
    exact ⟨rfl, _, _, by have e : R = done := (HRR.out.symm.trans Heq.out).trans (by simp [SOp.meet]); rw [e]; exact Hm.out⟩
  ·have hki1 : ¬ (i : Int) < (M : Int) := by omega
   rw [mrg_end_l (show m.length ≤ i by rw [HM.out.1]; omega)] at heq
   have Heq := hide heq
   clear heq ec
   go_wp2
   go_ret
   exact ⟨rfl, _, _, by have e : R = done := (HRR.out.symm.trans Heq.out).trans (by simp [SOp.meet]); rw [e]; exact Hm.out⟩

end Go.Proofs.YtbicoknghdgahaaGreat

namespace Go.Proofs.YtbicoknghdgahaaGreat
open Go.RowKit
attribute [local go_sem] run_store_float

set_option maxRecDepth 100000 in
set_option maxHeartbeats 4000000 in
theorem setIntersection_calls : ∀ {n a b : Nat} {F : Nat → Prop} {w : World} {g g' : Nat} {s t : St}, (∀ b, F b → b < w.heap.size) → SetR F w g s → SetR F w g' t → s.Ht n → t.Ht n → s.Le a → t.Le b → (a + b) * 40 ≤ R47 →
  Calls Tryz.prog 102 #[.pointer (some ⟨g, 0, none⟩), .pointer (some ⟨g', 0, none⟩)] w (GivesF F (SOp.meet.ap n s t) w)
 | 0, _, _, _, _, _, _, _, _, _, _, _, hn, _, _, _, _ => by cases hn
 | n + 1, a, b, F, w, g, g', .mk m ks, .mk m' ks', hF, hs, ht, hn, hn', hl, hl', h47 => by
  have h47' : (a + b) * 40 ≤ 140737488351232 := h47
  have hn1 : ∀ k ∈ ks, k.2.Ht n ∧ k.2.Le a := fun k hk => ⟨by cases hn with | mk h => exact h k hk, by cases hl with | mk h1 h2 h3 => exact h3 k hk⟩
  have hn2 : ∀ k ∈ ks', k.2.Ht n ∧ k.2.Le b := fun k hk => ⟨by cases hn' with | mk h => exact h k hk, by cases hl' with | mk h1 h2 h3 => exact h3 k hk⟩
  have hm : m.length ≤ a ∧ ks.length ≤ a := by cases hl with | mk h1 h2 h3 => exact ⟨h1, h2⟩
  have hm' : m'.length ≤ b ∧ ks'.length ≤ b := by cases hl' with | mk h1 h2 h3 => exact ⟨h1, h2⟩
  have IH : ∀ {F : Nat → Prop} {W : World} {ga gb : Nat} {s t : St}, (∀ b, F b → b < W.heap.size) → SetR F W ga s → SetR F W gb t → (s.Ht n ∧ s.Le a) → (t.Ht n ∧ t.Le b) → Calls Tryz.prog 102 #[.pointer (some ⟨ga, 0, none⟩), .pointer (some ⟨gb, 0, none⟩)] W (GivesF F (SOp.meet.ap n s t) W) :=
   fun hF h1 h2 h3 h4 => setIntersection_calls hF h1 h2 h3.1 h4.1 h3.2 h4.2 h47
  have hle := mrg_length (c := E.cmp) (kl := SOp.meet.kl) (kr := SOp.meet.kr) (f := SOp.meet.el) (l := m) (m := m')
  have hlk := mrg_length (c := kcmp) (kl := SOp.meet.kl) (kr := SOp.meet.kr) (f := SOp.meet.kid (SOp.meet.ap n)) (l := ks) (m := ks')
  obtain ⟨MA, KA, mc, kc, xs, ys, a1, a2, a3, a4, a5, a6, a7, a8, a9, a10, a11, a12⟩ := hs.parts
  obtain ⟨MB, KB, md, kd, xs', ys', b1, b2, b3, b4, b5, b6, b7, b8, b9, b10, b11, b12⟩ := ht.parts
  simp only [St.mem, St.kids] at a2 a3 a4 a5 a7 a9 a10 a11 a12 b2 b3 b4 b5 b7 b9 b10 b11 b12
  have ga0 := a2.cell 0
  have ga1 := a2.cell 1
  have gb0 := b2.cell 0
  have gb1 := b2.cell 1
  simp at ga0 ga1 gb0 gb1
  have hg := hF _ a1
  have hg' := hF _ b1
  have hbd : Below w.heap.size w w.drew := below_drew (Below.refl _ _)
  have H1 := hide (esIntersection_calls (F := F) (w := w.drew) (m := m) (m' := m') hF hg hg' ga0 gb0 a5 b5 a9 b9 (a11.mono fun _ _ h => h.keeps fun _ _ => rfl) (b11.mono fun _ _ h => h.keeps fun _ _ => rfl) (by unfold R47; omega))
  have H2 := hide fun (W : World) (hb : Below w.heap.size w W) => nmIntersection_calls (F := F) (w := W) IH hn1 hn2 (fun b hb' => Nat.lt_of_lt_of_le (hF b hb') hb.size) (Nat.lt_of_lt_of_le hg hb.size) (Nat.lt_of_lt_of_le hg' hb.size) (((bcell hb).1 _ _ hg).trans ga1) (((bcell hb).1 _ _ hg').trans gb1) a7 b7
   (a10.keeps (Keeps.below hb hF)) (b10.keeps (Keeps.below hb hF)) (a12.mono fun _ _ h => KQ.keeps h (Keeps.below hb hF)) (b12.mono fun _ _ h => KQ.keeps h (Keeps.below hb hF)) (by unfold R47; omega)
  have HF := hide hF
  have HL := hide (And.intro hle (And.intro hlk (And.intro hm hm')))
  rw [show SOp.meet.ap (n + 1) (.mk m ks) (.mk m' ks') = .mk (mrg E.cmp SOp.meet.kl SOp.meet.kr SOp.meet.el m m') (mrg kcmp SOp.meet.kl SOp.meet.kr (SOp.meet.kid (SOp.meet.ap n)) ks ks') from rfl]
  clear hs ht hn hn' hl hl' IH hn1 hn2 a1 a2 a3 a4 a5 a6 a7 a8 a9 a10 a11 a12 b1 b2 b3 b4 b5 b6 b7 b8 b9 b10 b11 b12 ga0 ga1 gb0 gb1 hbd hF hm hm' hle hlk
  generalize mrg E.cmp SOp.meet.kl SOp.meet.kr SOp.meet.el m m' = mm at *
  generalize mrg kcmp SOp.meet.kl SOp.meet.kr (SOp.meet.kid (SOp.meet.ap n)) ks ks' = kk at *
  go_enter Tryz.func102, Tryz.ntmps102
  go_wp2_with fail
  refine wp_region_head 19 (fun _ => True) (by rfl) (by kernel_rfl) ?_
  have hS0 : (fun _ : World => True) w.drew := trivial
  iterate 6
   refine HT.nx (v := ?_) rfl (by kernel_rfl) (fun _ _ _ h => h) (Or.inl ⟨by rfl, ?_⟩) ‹_› ?_
   rotate_left
   ·intro W hSw; go_simp; with_reducible rfl
   simp only [Act.put, zzA, zzZ, zzS]
  refine HT.take 9 (v := ?_) rfl (by kernel_rfl) (fun _ _ _ h => h) (Or.inl ⟨by rfl, ?_⟩) ‹_› ?_
  rotate_left
  ·intro W hSw; go_simp; with_reducible rfl
  simp only [Act.put, zzA, zzZ, zzS]
  refine HT.take 10 (v := ?_) rfl (by kernel_rfl) (fun _ _ _ h => h) (Or.inl ⟨by rfl, ?_⟩) ‹_› ?_
  rotate_left
  ·intro W hSw; go_simp; with_reducible rfl
  simp only [Act.put, zzA, zzZ, zzS]
  refine HT.take 11 (v := ?_) rfl (by kernel_rfl) (fun _ _ _ h => h) (Or.inl ⟨by rfl, ?_⟩) ‹_› ?_
  rotate_left
  ·intro W hSw; go_simp; with_reducible rfl
  simp only [Act.put, zzA, zzZ, zzS]
  refine HT.take 12 (v := ?_) rfl (by kernel_rfl) (fun _ _ _ h => h) (Or.inl ⟨by rfl, ?_⟩) ‹_› ?_
  rotate_left
  ·intro W hSw; go_simp; with_reducible rfl
  simp only [Act.put, zzA, zzZ, zzS]
  refine HT.take 13 (v := ?_) rfl (by kernel_rfl) (fun _ _ _ h => h) (Or.inl ⟨by rfl, ?_⟩) ‹_› ?_
  rotate_left
  ·intro W hSw; go_simp; with_reducible rfl
  simp only [Act.put, zzA, zzZ, zzS]
  refine HT.take 14 (v := ?_) rfl (by kernel_rfl) (fun _ _ _ h => h) (Or.inl ⟨by rfl, ?_⟩) ‹_› ?_
  rotate_left
  ·intro W hSw; go_simp; with_reducible rfl
  simp only [Act.put, zzA, zzZ, zzS]
  refine HT.one 6 rfl (by kernel_rfl) (by rfl) (fun K hK => ?_)
  go_simp
  refine H1.out.mono ?_
  rintro en w1 ⟨rfl, s1, us, hmg⟩
  obtain ⟨oA, oc, rfl, _, _⟩ := own_form hmg.own
  have hb1 : Below w.heap.size w w1 := below_drew' hmg.below
  have o0 := hmg.bk.cell 0
  have ol : w.heap.size < w1.heap.size := hmg.bk.lt
  simp at o0
  have Hm1 := hide hmg
  clear hmg H1
  go_simp
  refine hK.out _ _ trivial ?_
  clear hK K hS0
  obtain ⟨S, hS⟩ : ∃ S : World → Prop, (fun W => W.cell? ⟨w.heap.size, 0, none⟩ = some (.slice oA mm.length oc)) = S := ⟨_, rfl⟩
  have hS1 : S w1 := by rw [← hS]; exact o0
  refine HT.change (S2 := S) (fun _ _ => trivial) ?_
  have hX := hide (show ∀ W : World, S W → W.cell? ⟨w.heap.size, 0, none⟩ = some (.slice oA mm.length oc) from fun W hSw => by rw [← hS] at hSw; exact hSw)
  refine HT.take 7 (v := ?_) rfl (by kernel_rfl) (fun _ _ _ h => h) (Or.inl ⟨by rfl, ?_⟩) ‹_› ?_
  rotate_left
  ·intro W hSw; have hSw := hX.out W hSw; go_simp; with_reducible rfl
  simp only [Act.put, zzA, zzZ, zzS]
  refine HT.take 8 (v := ?_) rfl (by kernel_rfl) (fun _ _ _ h => h) (Or.inl ⟨by rfl, ?_⟩) ‹_› ?_
  rotate_left
  ·intro W hSw; have hSw := hX.out W hSw; go_simp; with_reducible rfl
  simp only [Act.put, zzA, zzZ, zzS]
  clear hX
  refine HT.one 15 rfl (by kernel_rfl) (by rfl) (fun K hK => ?_)
  go_simp
  refine (H2.out _ hb1).mono ?_
  rintro en w2 ⟨rfl, s2, us2, hmg2⟩
  obtain ⟨oB, od, rfl, _, _⟩ := own_form hmg2.own
  have hb2 := hmg2.below
  have z0 := hmg2.bk.cell 0
  have zl := hmg2.bk.lt
  simp at z0
  have hSw2 : S w2 := by rw [← hS] at hS1 ⊢; exact ((bcell hb2).1 _ _ ol).trans hS1
  have Hm2 := hide hmg2
  clear hmg2 H2
  go_simp
  refine hK.out _ _ hSw2 ?_
  clear hK K hS1 hS o0
  obtain ⟨S2, hS2⟩ : ∃ S2 : World → Prop, (fun W => S W ∧ W.cell? ⟨w1.heap.size, 0, none⟩ = some (.slice oB kk.length od)) = S2 := ⟨_, rfl⟩
  have hS3 : S2 w2 := by rw [← hS2]; exact ⟨hSw2, z0⟩
  refine HT.change (S2 := S2) (fun W h => by rw [← hS2] at h; exact h.1) ?_
  have hX := hide (show ∀ W : World, S2 W → S W ∧ W.cell? ⟨w1.heap.size, 0, none⟩ = some (.slice oB kk.length od) from fun W hSw => by rw [← hS2] at hSw; exact hSw)
  iterate 3
   refine HT.nx (v := ?_) rfl (by kernel_rfl) (fun _ _ _ h => h) (Or.inl ⟨by rfl, ?_⟩) ‹_› ?_
   rotate_left
   ·intro W hSw; have hSw := hX.out W hSw; go_simp; with_reducible rfl
   simp only [Act.put, zzA, zzZ, zzS]
  clear hX
  refine HT.done (by kernel_rfl) ?_
  simp only [List.drop_succ_cons, List.drop_zero]
  clear hS3 hS2 hSw2 z0
  have hw12 : w1.heap.size ≤ w2.heap.size := hb2.size
  have hbx : Below w2.heap.size w2 (w2.alloc (.cells #[.slice oA mm.length oc, .slice oB kk.length od] 130)) := (Below.refl _ _).alloc (Nat.le_refl _) _
  have hbox := Bk.new w2 130 #[.slice oA mm.length oc, .slice oB kk.length od]
  have hszx : (w2.alloc (.cells #[.slice oA mm.length oc, .slice oB kk.length od] 130)).heap.size = w2.heap.size + 1 := World.size_alloc _ _
  have hfin : SetR (fun b => F b ∨ Fr w.heap.size (w2.alloc (.cells #[.slice oA mm.length oc, .slice oB kk.length od] 130)) b) (w2.alloc (.cells #[.slice oA mm.length oc, .slice oB kk.length od] 130)) w2.heap.size (.mk mm kk) := by
   have q1 := own_form Hm1.out.own
   have q2 := own_form Hm2.out.own
   obtain ⟨_, _, e1, c1, c1'⟩ := q1
   obtain ⟨_, _, e2, c2, c2'⟩ := q2
   cases e1
   cases e2
   have k1 : Keeps (fun b => F b ∨ Fr w.heap.size w1 b) w1 (w2.alloc (.cells #[.slice oA mm.length oc, .slice oB kk.length od] 130)) := Keeps.below (hb2.trans (hbx.mono hb2.size)) fun b hb => by
    rcases hb with h1 | h1
    ·have := HF.out b h1; omega
    ·exact h1.2
   have k2 : Keeps (fun b => F b ∨ Fr w1.heap.size w2 b) w2 (w2.alloc (.cells #[.slice oA mm.length oc, .slice oB kk.length od] 130)) := Keeps.below hbx fun b hb => by
    rcases hb with h1 | h1
    ·have := HF.out b h1; omega
    ·exact h1.2
   have u1 : ∀ b, (F b ∨ Fr w.heap.size w1 b) → F b ∨ Fr w.heap.size (w2.alloc (.cells #[.slice oA mm.length oc, .slice oB kk.length od] 130)) b := fun b hb => hb.imp id fun h => ⟨h.1, by rw [hszx]; have := h.2; omega⟩
   have u2 : ∀ b, (F b ∨ Fr w1.heap.size w2 b) → F b ∨ Fr w.heap.size (w2.alloc (.cells #[.slice oA mm.length oc, .slice oB kk.length od] 130)) b := fun b hb => hb.imp id fun h => ⟨by have := h.1; omega, by rw [hszx]; have := h.2; omega⟩
   refine SetR.of_parts (.inr ⟨by omega, by rw [hszx]; omega⟩) hbox ?_ ?_ c1 c1' c2 c2' ((Hm1.out.row.keeps k1).mono u1) ((Hm2.out.row.keeps k2).mono u2) (Hm1.out.cells.mono fun _ _ h => ((h.mono fun b hb => hb.wide).keeps k1).mono u1) (Hm2.out.cells.mono fun _ _ h => KQ.mono (KQ.keeps (KQ.mono h fun b hb => hb.wide) k2) u2)
   ·have := HL.out.1; have h1 := HL.out.2.2.1; have h2 := HL.out.2.2.2; unfold R47; omega
   ·have := HL.out.2.1; have h1 := HL.out.2.2.1; have h2 := HL.out.2.2.2; unfold R47; omega
  have Hf := hide (And.intro hfin (hb1.trans ((hb2.trans (hbx.mono hb2.size)).mono hb1.size)))
  clear hfin hbx hbox hszx Hm1 Hm2 HL HF hb1 hb2
  go_wp2
  go_ret
  exact ⟨w2.heap.size, rfl, Hf.out.1, Hf.out.2⟩

set_option maxRecDepth 100000 in
set_option maxHeartbeats 4000000 in
theorem implSetIntersection_calls {l m : List (List REl)} {A B : Option Addr} {c d N : Nat} {w : World} (h : PathsAt (Old w) w l A c) (h' : PathsAt (Old w) w m B d) (hl : ∀ p ∈ pels l, POk p) (hm : ∀ p ∈ pels m, POk p) (hn : l.length + m.length ≤ N38) (h1 : (setP (pels l)).Ht N) (h2 : (setP (pels m)).Ht N) (hN : N * 168 ≤ R47) :
  Calls Tryz.prog 48 #[.slice A l.length c, .slice B m.length d] w (GivesPaths ((apL SOp.meet N (pels l) (pels m)).map (List.map E.toREl)) w) := by
 have hn' : l.length + m.length ≤ 274877906944 := hn
 have HT1 := hide (toSet_calls h hl (by unfold N38; omega))
 have HT2 := hide fun (W : World) (hb : Below w.heap.size w W) => toSet_calls (h'.at_ hb) hm (by unfold N38; omega)
 have hle1 : (setP (pels l)).Le l.length := by have := setP_le hl; rwa [show (pels l).length = l.length from List.length_map _] at this
 have hle2 : (setP (pels m)).Le m.length := by have := setP_le hm; rwa [show (pels m).length = m.length from List.length_map _] at this
 have hcount : (apL SOp.meet N (pels l) (pels m)).length * 24 ≤ R47 := by
  have q1 := apL_count (o := SOp.meet) (n := N) (a := pels l) (b := pels m)
  rw [show (pels l).length = l.length from List.length_map _, show (pels m).length = m.length from List.length_map _] at q1
  unfold R47
  omega
 have Hx := hide (And.intro h1 (And.intro h2 (And.intro hle1 (And.intro hle2 (And.intro hcount (And.intro (ap_ht (o := SOp.meet) (n := N) h1 h2) hN))))))
 have Hb40 := hide (show (l.length + m.length) * 40 ≤ R47 by unfold R47; omega)
 clear h h' hl hm hn h1 h2 hN hle1 hle2 hcount hn'
 unfold apL at *
 generalize setP (pels l) = s at *
 generalize setP (pels m) = t at *
 generalize l.length = k1 at *
 generalize m.length = k2 at *
 go_enter Tryz.func48, Tryz.ntmps48
 go_wp2_with fail
 refine HT1.out.mono ?_
 intro e w1 hg
 obtain ⟨rfl, hr, hb⟩ := hg.read
 have Hr := hide (And.intro hr hb)
 clear hr hb hg HT1
 go_wp2_with fail
 refine (HT2.out w1 Hr.out.2).mono ?_
 intro e w2 hg
 obtain ⟨rfl, hr2, hb2⟩ := hg.read
 have HU := hide (setIntersection_calls (F := Old w2) (w := w2) (fun b hb => hb) ((Hr.out.1.mono fun b hb => hb.2 : SetR (Old w1) w1 _ s).at_ hb2) (hr2.mono fun b hb => hb.2) Hx.out.1 Hx.out.2.1 Hx.out.2.2.1 Hx.out.2.2.2.1 Hb40.out)
 have Hb := hide (Hr.out.2.trans (hb2.mono Hr.out.2.size))
 clear hr2 hb2 hg Hr HT2
 go_wp2_with fail
 refine HU.out.mono ?_
 rintro e w3 ⟨g3, rfl, hs3, hb3⟩
 have hs3' : SetR (Old w3) w3 g3 (SOp.meet.ap N s t) := hs3.mono fun b hb => by
  rcases hb with h1 | h1
  ·have h1 : b < w2.heap.size := h1; have := hb3.size; show b < w3.heap.size; omega
  ·exact h1.2
 have HF := hide (fromSet_calls hs3' Hx.out.2.2.2.2.2.1 Hx.out.2.2.2.2.2.2 Hx.out.2.2.2.2.1)
 have Hb3 := hide (Hb.out.trans (hb3.mono Hb.out.size))
 clear hs3 hs3' hb3 HU Hb Hx
 generalize (SOp.meet.ap N s t).paths.map (List.map E.toREl) = rs at *
 go_wp2_with fail
 refine HF.out.mono ?_
 rintro e w4 ⟨B4, d4, rfl, hp, hb4⟩
 have Hf := hide (And.intro (hp.mono fun b hb => ⟨Nat.le_trans Hb3.out.size hb.1, hb.2⟩ : PathsAt (Fr w.heap.size w4) w4 rs B4 d4) (Hb3.out.trans (hb4.mono Hb3.out.size)))
 clear hp hb4
 go_wp2
 go_ret
 exact ⟨B4, d4, rfl, Hf.out.1, Hf.out.2⟩

end Go.Proofs.YtbicoknghdgahaaGreat
