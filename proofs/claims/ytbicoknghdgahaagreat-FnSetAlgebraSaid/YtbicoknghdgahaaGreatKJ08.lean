/- Parts: MrgKD. -/
import Derived.Test.YtbicoknghdgahaaGreatKJ05
set_option linter.unusedVariables false
set_option linter.unusedSimpArgs false
namespace Go.Proofs.YtbicoknghdgahaaGreat
open Go.RowKit
attribute [local go_sem] run_store_float

set_option maxRecDepth 100000 in
set_option maxHeartbeats 16000000 in
theorem nmDifference_calls {u : St → St → St} {P P' : St → Prop} (IH : ∀ {F : Nat → Prop} {W : World} {ga gb : Nat} {s t : St}, (∀ b, F b → b < W.heap.size) → SetR F W ga s → SetR F W gb t → P s → P' t → Calls Tryz.prog 103 #[.pointer (some ⟨ga, 0, none⟩), .pointer (some ⟨gb, 0, none⟩)] W (GivesF F (u s t) W))
  {F : Nat → Prop} {w : World} {g g' : Nat} {m m' : List (E × St)} {MA MB : Option Addr} {mc md : Nat} {xs ys : List Value} (hP : ∀ k ∈ m, P k.2) (hP' : ∀ k ∈ m', P' k.2) (hF : ∀ b, F b → b < w.heap.size) (hg : g < w.heap.size) (hg' : g' < w.heap.size) (m0 : w.cell? ⟨g, 1, none⟩ = some (.slice MA m.length mc)) (n0 : w.cell? ⟨g', 1, none⟩ = some (.slice MB m'.length md))
  (hmc : m.length ≤ mc) (hmd : m'.length ≤ md) (hr : Row F w 5 MA m.length xs) (hr' : Row F w 5 MB m'.length ys) (hx : Cells 5 (KQ F w) m xs) (hy : Cells 5 (KQ F w) m' ys) (h47 : (m.length + m'.length) * 40 ≤ R47) :
  Calls Tryz.prog 158 #[.pointer (some ⟨g, 1, none⟩), .pointer (some ⟨g', 0, none⟩)] w (fun en w' => en = .returned (.pointer (some ⟨w.heap.size, 0, none⟩)) ∧ ∃ s us, Mg 5 128 214 KQ F w (mrg kcmp SOp.less.kl SOp.less.kr (SOp.less.kid u) m m') s w' us) := by
 have h47' : (m.length + m'.length) * 40 ≤ 140737488351232 := h47
 obtain ⟨i9, hi9, hz9, hs9, hb9⟩ := info_parts node_info
 obtain ⟨M, hM⟩ : ∃ M, m.length = M := ⟨_, rfl⟩
 obtain ⟨M1, hM1⟩ : ∃ M1, m'.length = M1 := ⟨_, rfl⟩
 have HM := hide (And.intro hM hM1)
 rw [hM] at m0 hmc hr h47'
 rw [hM1] at n0 hmd hr' h47'
 have HG := hide (And.intro hg (And.intro hg' (And.intro m0 (And.intro n0 (And.intro hr (And.intro hr' (And.intro hx hy)))))))
 obtain ⟨R, hR⟩ : ∃ R, mrg kcmp SOp.less.kl SOp.less.kr (SOp.less.kid u) m m' = R := ⟨_, rfl⟩
 rw [hR]
 have HRR := hide hR
 have HF := hide hF
 have HP := hide (And.intro hP hP')
 clear hr hr' hx hy h47 hM hM1 hR hF hP hP'
 have hb0 : Below w.heap.size w (w.alloc (.cells #[.slice none 0 0] 128)) := (Below.refl _ _).alloc (Nat.le_refl _) _
 have hm0 : Mg 5 128 214 KQ F w ([] : List (E × St)) (.slice none 0 0) (w.alloc (.cells #[.slice none 0 0] 128)) [] := Mg.start hb0 (Bk.new _ _ _)
 have Hm0 := hide hm0
 clear hm0 hb0
 go_enter Tryz.func158, Tryz.ntmps158
 go_wp2_with fail
 go_loopw [6, 7] (fun s6 s7 W => MKInv SOp.less.kl SOp.less.kr (SOp.less.kid u) F w m m' s6 s7 W) (fun s6 s7 _ => (m.length - (intOf s6).toNat) + (m'.length - (intOf s7).toNat))
 case atStart => exact ⟨0, 0, [], _, [], rfl, rfl, Nat.zero_le _, Nat.zero_le _, Nat.le_refl _, rfl, Hm0.out⟩
 case round =>
  clear m0 n0
  obtain ⟨i, j, done, s, us, rfl, rfl, hi, hj, hdl, heq, hm⟩ := hrel
  rw [HM.out.1] at hi
  rw [HM.out.2] at hj
  have hki0 : (0 : Int) ≤ (i : Int) := Int.natCast_nonneg _
  have hkj0 : (0 : Int) ≤ (j : Int) := Int.natCast_nonneg _
  obtain ⟨n, hn⟩ : ∃ n, done.length = n := ⟨_, rfl⟩
  have hown := hm.own
  rw [hn] at hdl hown
  obtain ⟨oA, oc, rfl, hoc1, hoc2⟩ := own_form hown
  have Hn := hide hn
  have Hm := hide hm
  clear hn hown hm
  obtain ⟨wo, hwo⟩ : ∃ W, W = wr := ⟨_, rfl⟩
  subst hwo
  have ec := (bcell Hm.out.below).1
  have s0 := (ec _ 1 HG.out.1).trans HG.out.2.2.1
  have t0 := (ec _ 1 HG.out.2.1).trans HG.out.2.2.2.1
  have o0 := Hm.out.bk.cell 0
  have ol := Hm.out.bk.lt
  have hwe : w.heap.size < wo.heap.size := ol
  simp at o0
  by_cases hi1 : i < M
  ·by_cases hj1 : j < M1
   ·have hki1 : (i : Int) < (M : Int) := by omega
    have hkj1 : (j : Int) < (M1 : Int) := by omega
    have hx' := HG.out.2.2.2.2.2.2.1.at_ (show i < m.length by rw [HM.out.1]; exact hi1)
    have hy' := HG.out.2.2.2.2.2.2.2.at_ (show j < m'.length by rw [HM.out.2]; exact hj1)
    rw [mrg_drop (show i < m.length by rw [HM.out.1]; exact hi1) (show j < m'.length by rw [HM.out.2]; exact hj1)] at heq
    have hPa := HP.out.1 _ (List.getElem_mem (show i < m.length by rw [HM.out.1]; exact hi1))
    have hPb := HP.out.2 _ (List.getElem_mem (show j < m'.length by rw [HM.out.2]; exact hj1))
    generalize m[i]'(by rw [HM.out.1]; exact hi1) = a at *
    generalize m'[j]'(by rw [HM.out.2]; exact hj1) = b at *
    generalize hcs : (xs.drop (i * 5)).take 5 = fcs at hx'
    generalize hds : (ys.drop (j * 5)).take 5 = gcs at hy'
    have hxk := hx'
    have hyk := hy'
    obtain ⟨p0, p1, p2, p3, pg, rfl, hxe, hxs⟩ := hx'.form
    obtain ⟨q0, q1, q2, q3, qg, rfl, hye, hys⟩ := hy'.form
    obtain ⟨rb, ro, rfl, hF1, hc⟩ := rown_at HG.out.2.2.2.2.1 hi1 hcs
    obtain ⟨sb, so, rfl, hF2, hd⟩ := rown_at HG.out.2.2.2.2.2.1 hj1 hds
    have HR := hide (And.intro (HF.out _ hF1) (And.intro (HF.out _ hF2) (And.intro hc hd)))
    have HLT := hide (show g < w.heap.size ∧ g' < w.heap.size ∧ rb < w.heap.size ∧ sb < w.heap.size from ⟨HG.out.1, HG.out.2.1, HF.out _ hF1, HF.out _ hF2⟩)
    have hrb : rb < w.heap.size := HF.out _ hF1
    have hsb : sb < w.heap.size := HF.out _ hF2
    clear hcs hds hc hd hF1 hF2
    have sc0 := (ec _ _ HR.out.1).trans (HR.out.2.2.1 0 _ rfl)
    have sc1 := (ec _ _ HR.out.1).trans (HR.out.2.2.1 1 _ rfl)
    have sc2 := (ec _ _ HR.out.1).trans (HR.out.2.2.1 2 _ rfl)
    have sc3 := (ec _ _ HR.out.1).trans (HR.out.2.2.1 3 _ rfl)
    have sc4 := (ec _ _ HR.out.1).trans (HR.out.2.2.1 4 _ rfl)
    have tc0 := (ec _ _ HR.out.2.1).trans (HR.out.2.2.2 0 _ rfl)
    have tc1 := (ec _ _ HR.out.2.1).trans (HR.out.2.2.2 1 _ rfl)
    have tc2 := (ec _ _ HR.out.2.1).trans (HR.out.2.2.2 2 _ rfl)
    have tc3 := (ec _ _ HR.out.2.1).trans (HR.out.2.2.2 3 _ rfl)
    have tc4 := (ec _ _ HR.out.2.1).trans (HR.out.2.2.2 4 _ rfl)
    rw [Nat.add_zero] at sc0 tc0
    obtain ⟨v, hv⟩ : ∃ v, decide (E.cmp a.1 b.1 < 0) = v := ⟨_, rfl⟩
    obtain ⟨v2, hv2⟩ : ∃ v2, decide (E.cmp b.1 a.1 < 0) = v2 := ⟨_, rfl⟩
    have HL := hide fun (W : World) (hb : Below w.heap.size w W) => less_calls ((hxe.mono HF.out : PEAt (Old w) w _ _).at_ hb) ((hye.mono HF.out : PEAt (Old w) w _ _).at_ hb)
    have HL2 := hide fun (W : World) (hb : Below w.heap.size w W) => less_calls ((hye.mono HF.out : PEAt (Old w) w _ _).at_ hb) ((hxe.mono HF.out : PEAt (Old w) w _ _).at_ hb)
    have HU := hide fun (W : World) (hb : Below w.heap.size w W) => IH (F := F) (W := W) (fun b hb' => Nat.lt_of_lt_of_le (HF.out b hb') hb.size) (hxs.keeps (Keeps.below hb HF.out)) (hys.keeps (Keeps.below hb HF.out)) hPa hPb
    rw [hv] at HL
    rw [hv2] at HL2
    have Hv := hide (And.intro hv hv2)
    have Heq := hide heq
    have HK := hide (And.intro hxk hyk)
    have HE := hide hxe
    clear hv hv2 heq ec hx' hy' hxk hyk hxe hye hxs hys hPa hPb
    go_wp2_with fail
    go_still_tail 17, (by kernel_rfl)
    change wpList _ _ _ _ _ wo.drew
    go_wp2_with fail
    refine (HL.out wo.drew (below_drew Hm.out.below)).mono ?_
    rintro en w5 ⟨rfl, hb5⟩
    have Hm5 := hide (Hm.out.at_ (fun h k => h.keeps k) (fun h k => h.mono k) (below_drew' hb5))
    clear hb5 o0 ol s0 t0 sc0 sc1 sc2 sc3 sc4 tc0 tc1 tc2 tc3 tc4 HL hwe Hm
    have Hm := Hm5
    clear Hm5
    have ec := (bcell Hm.out.below).1
    have s0 := (ec _ 1 HG.out.1).trans HG.out.2.2.1
    have t0 := (ec _ 1 HG.out.2.1).trans HG.out.2.2.2.1
    have o0 := Hm.out.bk.cell 0
    have ol := Hm.out.bk.lt
    have hwe : w.heap.size < w5.heap.size := ol
    simp at o0
    have sc0 := (ec _ _ HR.out.1).trans (HR.out.2.2.1 0 _ rfl)
    have sc1 := (ec _ _ HR.out.1).trans (HR.out.2.2.1 1 _ rfl)
    have sc2 := (ec _ _ HR.out.1).trans (HR.out.2.2.1 2 _ rfl)
    have sc3 := (ec _ _ HR.out.1).trans (HR.out.2.2.1 3 _ rfl)
    have sc4 := (ec _ _ HR.out.1).trans (HR.out.2.2.1 4 _ rfl)
    have tc0 := (ec _ _ HR.out.2.1).trans (HR.out.2.2.2 0 _ rfl)
    have tc1 := (ec _ _ HR.out.2.1).trans (HR.out.2.2.2 1 _ rfl)
    have tc2 := (ec _ _ HR.out.2.1).trans (HR.out.2.2.2 2 _ rfl)
    have tc3 := (ec _ _ HR.out.2.1).trans (HR.out.2.2.2 3 _ rfl)
    have tc4 := (ec _ _ HR.out.2.1).trans (HR.out.2.2.2 4 _ rfl)
    rw [Nat.add_zero] at sc0 tc0
    clear ec
    generalize w5 = w1 at *
    cases v
    ·skip
     go_wp2_with fail
     go_still_tail 17, (by kernel_rfl)
     change wpList _ _ _ _ _ w1.drew
     go_wp2_with fail
     refine (HL2.out w1.drew (below_drew Hm.out.below)).mono ?_
     rintro en w5 ⟨rfl, hb5⟩
     have Hm5 := hide (Hm.out.at_ (fun h k => h.keeps k) (fun h k => h.mono k) (below_drew' hb5))
     clear hb5 o0 ol s0 t0 sc0 sc1 sc2 sc3 sc4 tc0 tc1 tc2 tc3 tc4 HL2 hwe Hm
     have Hm := Hm5
     clear Hm5
     generalize w5 = w6 at *
     cases v2
     ·skip
      have ec := (bcell Hm.out.below).1
      have s0 := (ec _ 1 HG.out.1).trans HG.out.2.2.1
      have t0 := (ec _ 1 HG.out.2.1).trans HG.out.2.2.2.1
      have o0 := Hm.out.bk.cell 0
      have ol := Hm.out.bk.lt
      have hwe : w.heap.size < w6.heap.size := ol
      simp at o0
      have sc0 := (ec _ _ HR.out.1).trans (HR.out.2.2.1 0 _ rfl)
      have sc1 := (ec _ _ HR.out.1).trans (HR.out.2.2.1 1 _ rfl)
      have sc2 := (ec _ _ HR.out.1).trans (HR.out.2.2.1 2 _ rfl)
      have sc3 := (ec _ _ HR.out.1).trans (HR.out.2.2.1 3 _ rfl)
      have sc4 := (ec _ _ HR.out.1).trans (HR.out.2.2.1 4 _ rfl)
      have tc0 := (ec _ _ HR.out.2.1).trans (HR.out.2.2.2 0 _ rfl)
      have tc1 := (ec _ _ HR.out.2.1).trans (HR.out.2.2.2 1 _ rfl)
      have tc2 := (ec _ _ HR.out.2.1).trans (HR.out.2.2.2 2 _ rfl)
      have tc3 := (ec _ _ HR.out.2.1).trans (HR.out.2.2.2 3 _ rfl)
      have tc4 := (ec _ _ HR.out.2.1).trans (HR.out.2.2.2 4 _ rfl)
      rw [Nat.add_zero] at sc0 tc0
      clear ec
      go_wp2_with fail
      go_still_tail 17, (by kernel_rfl)
      change wpList _ _ _ _ _ w6.drew
      go_wp2_with fail
      refine (HU.out w6.drew (below_drew Hm.out.below)).mono ?_
      rintro en w7 ⟨g5, rfl, hset5, hb5⟩
      have hb5' : Below w6.heap.size w6 w7 := below_drew' hb5
      have Hset := hide (show SetR (Apart F w (.slice oA n oc) w7) w7 g5 (u a.2 b.2) from hset5.mono fun b hb => Apart.new Hm.out hb5' b hb HF.out)
      have Hm7 := hide (Hm.out.at_ (fun h k => h.keeps k) (fun h k => h.mono k) hb5')
      have HEm := hide (setEmpty_calls (hset5.mono (G := Old w7) fun b hb => by
       rcases hb with h1 | h1
       ·have := HF.out b h1; have h2 := Hm.out.below.size; have h3 := hb5'.size; show b < w7.heap.size; omega
       ·exact h1.2))
      obtain ⟨v3, hv3⟩ : ∃ v3, (u a.2 b.2).emp = v3 := ⟨_, rfl⟩
      rw [hv3] at HEm
      have Hv3 := hide hv3
      clear hset5 hb5 hb5' hv3 Hm HU o0 ol s0 t0 sc0 sc1 sc2 sc3 sc4 tc0 tc1 tc2 tc3 tc4 hwe
      go_wp2_with fail
      refine HEm.out.mono ?_
      rintro en w8 ⟨rfl, hb8⟩
      have Hset8 := hide (show SetR (Apart F w (.slice oA n oc) w8) w8 g5 (u a.2 b.2) from (Hset.out.keeps (Keeps.below hb8 fun b hb => hb.2.1)).mono fun b hb => hb.below hb8)
      have Hm := hide (Hm7.out.at_ (fun h k => h.keeps k) (fun h k => h.mono k) hb8)
      clear hb8 HEm Hm7 Hset
      cases v3
      ·skip
       have ec := (bcell Hm.out.below).1
       have s0 := (ec _ 1 HG.out.1).trans HG.out.2.2.1
       have t0 := (ec _ 1 HG.out.2.1).trans HG.out.2.2.2.1
       have o0 := Hm.out.bk.cell 0
       have ol := Hm.out.bk.lt
       have hwe : w.heap.size < w8.heap.size := ol
       simp at o0
       have sc0 := (ec _ _ HR.out.1).trans (HR.out.2.2.1 0 _ rfl)
       have sc1 := (ec _ _ HR.out.1).trans (HR.out.2.2.1 1 _ rfl)
       have sc2 := (ec _ _ HR.out.1).trans (HR.out.2.2.1 2 _ rfl)
       have sc3 := (ec _ _ HR.out.1).trans (HR.out.2.2.1 3 _ rfl)
       have sc4 := (ec _ _ HR.out.1).trans (HR.out.2.2.1 4 _ rfl)
       have tc0 := (ec _ _ HR.out.2.1).trans (HR.out.2.2.2 0 _ rfl)
       have tc1 := (ec _ _ HR.out.2.1).trans (HR.out.2.2.2 1 _ rfl)
       have tc2 := (ec _ _ HR.out.2.1).trans (HR.out.2.2.2 2 _ rfl)
       have tc3 := (ec _ _ HR.out.2.1).trans (HR.out.2.2.2 3 _ rfl)
       have tc4 := (ec _ _ HR.out.2.1).trans (HR.out.2.2.2 4 _ rfl)
       rw [Nat.add_zero] at sc0 tc0
       clear ec
       go_wp2_with fail
       obtain ⟨S, hS⟩ : ∃ S, MKS w.heap.size g g' rb (ro + i * 5) sb (so + j * 5) (.slice oA n oc) (.slice (some ⟨rb, ro, none⟩) M mc) (.slice (some ⟨sb, so, none⟩) M1 md) (.pointer p0) (.pointer p1) (.pointer p2) (.pointer p3) (.pointer (some ⟨pg, 0, none⟩)) (.pointer q0) (.pointer q1) (.pointer q2) (.pointer q3) (.pointer (some ⟨qg, 0, none⟩)) = S := ⟨_, rfl⟩
       have hS0 : S w8.drew := by rw [← hS]; exact ⟨⟨o0, s0, t0⟩, ⟨sc0, sc1, sc2, sc3, sc4⟩, tc0, tc1, tc2, tc3, tc4⟩
       refine wp_region_head 17 S (by rfl) (by kernel_rfl) ?_
       have hX := hide (show ∀ W : World, S W → MKS w.heap.size g g' rb (ro + i * 5) sb (so + j * 5) (.slice oA n oc) (.slice (some ⟨rb, ro, none⟩) M mc) (.slice (some ⟨sb, so, none⟩) M1 md) (.pointer p0) (.pointer p1) (.pointer p2) (.pointer p3) (.pointer (some ⟨pg, 0, none⟩)) (.pointer q0) (.pointer q1) (.pointer q2) (.pointer q3) (.pointer (some ⟨qg, 0, none⟩)) W from fun W hSw => by rw [← hS] at hSw; exact hSw)
       iterate 15
        refine HT.nx (v := ?_) rfl (by kernel_rfl) (fun _ _ _ h => h) (Or.inl ⟨by rfl, ?_⟩) ‹_› ?_
        rotate_left
        ·intro W hSw; obtain ⟨⟨s0, s1, s2⟩, ⟨c0, c1, c2, c3, c4⟩, d0, d1, d2, d3, d4⟩ := hX.out W hSw; go_simp; with_reducible rfl
        simp only [Act.put, zzA, zzZ, zzS]
       clear hX
       refine HT.one 15 rfl (by kernel_rfl) (by rfl) (fun K hK => ?_)
       go_simp
       have hbA : Below w8.heap.size w8 (w8.drew.alloc (.cells #[.pointer p0, .pointer p1, .pointer p2, .pointer p3, .pointer (some ⟨g5, 0, none⟩)] 214)) := (below_drew (Below.refl _ _)).alloc (Nat.le_refl _) _
       have hS1 : S (w8.drew.alloc (.cells #[.pointer p0, .pointer p1, .pointer p2, .pointer p3, .pointer (some ⟨g5, 0, none⟩)] 214)) := by
        rw [← hS] at hS0 ⊢
        exact hS0.to HLT.out fun b k hb => (bcell hbA).1 _ _ (by omega)
       refine hK.out _ _ hS1 ?_
       clear hK K
       refine HT.one 16 rfl (by kernel_rfl) (by rfl) (fun K hK => ?_)
       have hmA := Hm.out.at_ (fun h k => h.keeps k) (fun h k => h.mono k) hbA
       refine wp_append_row _ (.tmp 118) (.tmp 129) 126 rfl (w.heap.size + 1) 214 i9 _ 5 40 Tryz.underlying126 hi9 hz9 hs9 hb9 rfl (by omega) (.slice oA n oc) n us rfl (by have q := hmA.own; rw [Hn.out] at q; exact q) (fun _ => True) (some ⟨w8.heap.size, 0, none⟩) 1 1 [.pointer p0, .pointer p1, .pointer p2, .pointer p3, .pointer (some ⟨g5, 0, none⟩)] rfl (Row.of_bkp (Bk.new w8.drew 214 ([.pointer p0, .pointer p1, .pointer p2, .pointer p3, .pointer (some ⟨g5, 0, none⟩)] : List Value).toArray) rfl trivial) (by simp [Value.oneCell']) (by omega) (by omega) (by show w.heap.size + 1 ≤ (w8.alloc (.cells #[.pointer p0, .pointer p1, .pointer p2, .pointer p3, .pointer (some ⟨g5, 0, none⟩)] 214)).heap.size; rw [World.size_alloc]; omega) ?_
       intro v' w3 hown3 hg3 hat3
       have hlo3 := hmA.own.lt
       have hstep := hmA.step HF.out (add := [(a.1, u a.2 b.2)]) (fun h k => h.keeps k) (fun h k => h.mono k) (by rw [Hn.out]; exact hown3) hg3 hat3 (Cells.one (KQ.mk_ (k := (a.1, u a.2 b.2)) ((HE.out.keeps (Keeps.below hmA.below HF.out)).mono (Apart.old HF.out hmA)) ((Hset8.out.keeps (Keeps.below hbA fun b hb => hb.2.1)).mono fun b hb => hb.below hbA)) rfl)
       have hsz3 : w8.heap.size + 1 ≤ w3.heap.size := by have h1 : (w8.alloc (.cells #[.pointer p0, .pointer p1, .pointer p2, .pointer p3, .pointer (some ⟨g5, 0, none⟩)] 214)).heap.size ≤ w3.heap.size := hg3.size; rw [World.size_alloc] at h1; exact h1
       have hne : ∀ b, b ≤ w.heap.size → some b ≠ (Value.slice oA n oc).ownBlock := fun b hb e => by have := (hlo3 b e.symm).1; omega
       have hS3 : S w3 := by
        rw [← hS] at hS1 ⊢
        exact hS1.to HLT.out fun b k hb => (gcell hg3).1 _ _ (by show b < (w8.alloc (.cells #[.pointer p0, .pointer p1, .pointer p2, .pointer p3, .pointer (some ⟨g5, 0, none⟩)] 214)).heap.size; rw [World.size_alloc]; omega) (hne _ hb)
       go_simp
       refine hK.out _ _ hS3 ?_
       clear hK K
       refine HT.done (by kernel_rfl) ?_
       simp only [List.drop_succ_cons, List.drop_zero]
       have hO3 : Bk w3 w.heap.size 128 #[.slice oA n oc] := hmA.bk.grown hg3 (hne _ (Nat.le_refl _))
       have z0 := hO3.cell 0
       have z1 := hO3.free 0
       simp at z0
       obtain ⟨nA, nc, rfl, _, _⟩ := own_form hown3
       have Hs := hide (And.intro hstep hsz3)
       clear hS0 hS1 hS3 hS hbA hmA hown3 hg3 hat3 hlo3 hstep hsz3 hne hO3
       clear o0 s0 t0 sc0 sc1 sc2 sc3 sc4 tc0 tc1 tc2 tc3 tc4
       go_wp2_with fail
       exact ⟨⟨i + 1, j + 1, done ++ [(a.1, u a.2 b.2)], _, _, by go_num, by go_num, by rw [HM.out.1]; omega, by rw [HM.out.2]; omega, by rw [List.length_append, Hn.out]; show n + 1 ≤ _; omega, by rw [Heq.out, if_neg (show ¬ kcmp a b < 0 by simpa [kcmp] using Hv.out.1), if_neg (show ¬ kcmp b a < 0 by simpa [kcmp] using Hv.out.2)]; simp [SOp.kid, SOp.less, Hv3.out], Hs.out.1⟩, by simp [intOf]; have := HM.out.1; have := HM.out.2; omega⟩
      ·go_wp2_with fail
       exact ⟨⟨i + 1, j + 1, done, _, _, by go_num, by go_num, by rw [HM.out.1]; omega, by rw [HM.out.2]; omega, by rw [Hn.out]; omega, by rw [Heq.out, if_neg (show ¬ kcmp a b < 0 by simpa [kcmp] using Hv.out.1), if_neg (show ¬ kcmp b a < 0 by simpa [kcmp] using Hv.out.2)]; simp [SOp.kid, SOp.less, Hv3.out], Hm.out⟩, by simp [intOf]; have := HM.out.1; have := HM.out.2; omega⟩
     ·skip
      go_wp2_with fail
      exact ⟨⟨i, j + 1, done, _, _, by go_num, by go_num, by rw [HM.out.1]; omega, by rw [HM.out.2]; omega, by rw [Hn.out]; omega, by rw [Heq.out, if_neg (show ¬ kcmp a b < 0 by simpa [kcmp] using Hv.out.1), if_pos (show kcmp b a < 0 by simpa [kcmp] using Hv.out.2)]; simp [SOp.less], Hm.out⟩, by simp [intOf]; have := HM.out.1; have := HM.out.2; omega⟩
    ·skip
     clear HU HL2
     go_wp2_with fail
     obtain ⟨S, hS⟩ : ∃ S, MKS w.heap.size g g' rb (ro + i * 5) sb (so + j * 5) (.slice oA n oc) (.slice (some ⟨rb, ro, none⟩) M mc) (.slice (some ⟨sb, so, none⟩) M1 md) (.pointer p0) (.pointer p1) (.pointer p2) (.pointer p3) (.pointer (some ⟨pg, 0, none⟩)) (.pointer q0) (.pointer q1) (.pointer q2) (.pointer q3) (.pointer (some ⟨qg, 0, none⟩)) = S := ⟨_, rfl⟩
     have hS0 : S w1.drew := by rw [← hS]; exact ⟨⟨o0, s0, t0⟩, ⟨sc0, sc1, sc2, sc3, sc4⟩, tc0, tc1, tc2, tc3, tc4⟩
     refine wp_region_head 24 S (by rfl) (by kernel_rfl) ?_
     have hX := hide (show ∀ W : World, S W → MKS w.heap.size g g' rb (ro + i * 5) sb (so + j * 5) (.slice oA n oc) (.slice (some ⟨rb, ro, none⟩) M mc) (.slice (some ⟨sb, so, none⟩) M1 md) (.pointer p0) (.pointer p1) (.pointer p2) (.pointer p3) (.pointer (some ⟨pg, 0, none⟩)) (.pointer q0) (.pointer q1) (.pointer q2) (.pointer q3) (.pointer (some ⟨qg, 0, none⟩)) W from fun W hSw => by rw [← hS] at hSw; exact hSw)
     iterate 22
      refine HT.nx (v := ?_) rfl (by kernel_rfl) (fun _ _ _ h => h) (Or.inl ⟨by rfl, ?_⟩) ‹_› ?_
      rotate_left
      ·intro W hSw; obtain ⟨⟨s0, s1, s2⟩, ⟨c0, c1, c2, c3, c4⟩, d0, d1, d2, d3, d4⟩ := hX.out W hSw; go_simp; with_reducible rfl
      simp only [Act.put, zzA, zzZ, zzS]
     clear hX
     refine HT.one 22 rfl (by kernel_rfl) (by rfl) (fun K hK => ?_)
     go_simp
     have hbA : Below w1.heap.size w1 (w1.drew.alloc (.cells #[.pointer p0, .pointer p1, .pointer p2, .pointer p3, .pointer (some ⟨pg, 0, none⟩)] 214)) := (below_drew (Below.refl _ _)).alloc (Nat.le_refl _) _
     have hS1 : S (w1.drew.alloc (.cells #[.pointer p0, .pointer p1, .pointer p2, .pointer p3, .pointer (some ⟨pg, 0, none⟩)] 214)) := by
      rw [← hS] at hS0 ⊢
      exact hS0.to HLT.out fun b k hb => (bcell hbA).1 _ _ (by omega)
     refine hK.out _ _ hS1 ?_
     clear hK K
     refine HT.one 23 rfl (by kernel_rfl) (by rfl) (fun K hK => ?_)
     have hmA := Hm.out.at_ (fun h k => h.keeps k) (fun h k => h.mono k) hbA
     refine wp_append_row _ (.tmp 50) (.tmp 68) 126 rfl (w.heap.size + 1) 214 i9 _ 5 40 Tryz.underlying126 hi9 hz9 hs9 hb9 rfl (by omega) (.slice oA n oc) n us rfl (by have q := hmA.own; rw [Hn.out] at q; exact q) (fun _ => True) (some ⟨w1.heap.size, 0, none⟩) 1 1 [.pointer p0, .pointer p1, .pointer p2, .pointer p3, .pointer (some ⟨pg, 0, none⟩)] rfl (Row.of_bkp (Bk.new w1.drew 214 ([.pointer p0, .pointer p1, .pointer p2, .pointer p3, .pointer (some ⟨pg, 0, none⟩)] : List Value).toArray) rfl trivial) (by simp [Value.oneCell']) (by omega) (by omega) (by show w.heap.size + 1 ≤ (w1.alloc (.cells #[.pointer p0, .pointer p1, .pointer p2, .pointer p3, .pointer (some ⟨pg, 0, none⟩)] 214)).heap.size; rw [World.size_alloc]; omega) ?_
     intro v' w3 hown3 hg3 hat3
     have hlo3 := hmA.own.lt
     have hstep := hmA.step HF.out (add := [a]) (fun h k => h.keeps k) (fun h k => h.mono k) (by rw [Hn.out]; exact hown3) hg3 hat3 (Cells.one ((HK.out.1.keeps (Keeps.below hmA.below HF.out)).mono (Apart.old HF.out hmA)) rfl)
     have hsz3 : w1.heap.size + 1 ≤ w3.heap.size := by have h1 : (w1.alloc (.cells #[.pointer p0, .pointer p1, .pointer p2, .pointer p3, .pointer (some ⟨pg, 0, none⟩)] 214)).heap.size ≤ w3.heap.size := hg3.size; rw [World.size_alloc] at h1; exact h1
     have hne : ∀ b, b ≤ w.heap.size → some b ≠ (Value.slice oA n oc).ownBlock := fun b hb e => by have := (hlo3 b e.symm).1; omega
     have hS3 : S w3 := by
      rw [← hS] at hS1 ⊢
      exact hS1.to HLT.out fun b k hb => (gcell hg3).1 _ _ (by show b < (w1.alloc (.cells #[.pointer p0, .pointer p1, .pointer p2, .pointer p3, .pointer (some ⟨pg, 0, none⟩)] 214)).heap.size; rw [World.size_alloc]; omega) (hne _ hb)
     go_simp
     refine hK.out _ _ hS3 ?_
     clear hK K
     refine HT.done (by kernel_rfl) ?_
     simp only [List.drop_succ_cons, List.drop_zero]
     have hO3 : Bk w3 w.heap.size 128 #[.slice oA n oc] := hmA.bk.grown hg3 (hne _ (Nat.le_refl _))
     have z0 := hO3.cell 0
     have z1 := hO3.free 0
     simp at z0
     obtain ⟨nA, nc, rfl, _, _⟩ := own_form hown3
     have Hs := hide (And.intro hstep hsz3)
     clear hS0 hS1 hS3 hS hbA hmA hown3 hg3 hat3 hlo3 hstep hsz3 hne hO3
     clear o0 s0 t0 sc0 sc1 sc2 sc3 sc4 tc0 tc1 tc2 tc3 tc4
     go_wp2_with fail
     exact ⟨⟨i + 1, j, done ++ [a], _, _, by go_num, by go_num, by rw [HM.out.1]; omega, by rw [HM.out.2]; omega, by rw [List.length_append, Hn.out]; show n + 1 ≤ _; omega, by rw [Heq.out, if_pos (show kcmp a b < 0 by simpa [kcmp] using Hv.out.1)]; simp [SOp.less], Hs.out.1⟩, by simp [intOf]; have := HM.out.1; have := HM.out.2; omega⟩
   ·have hkj1 : ¬ (j : Int) < (M1 : Int) := by omega
    have hki1 : (i : Int) < (M : Int) := by omega
    rw [mrg_end_r (show m'.length ≤ j by rw [HM.out.2]; omega)] at heq
    have Heq := hide heq
    clear heq ec
    have hcne : ¬ mc = i := by omega
    have hic : (i : Int) ≤ (mc : Int) := by omega
    obtain ⟨rb, ro, rfl, hF1, hc⟩ := HG.out.2.2.2.2.1.2 (by omega)
    have hdrop := HG.out.2.2.2.2.1.drop_at (m := i) (by omega)
    have Hd := hide (And.intro hdrop (HG.out.2.2.2.2.2.2.1.drop_ i))
    have Hd1 := hide (kq_ones (HG.out.2.2.2.2.2.2.1.drop_ i))
    clear hdrop hc hF1
    go_wp2_with fail
    obtain ⟨S, hS⟩ : ∃ S : World → Prop, (fun W => W.cell? ⟨w.heap.size, 0, none⟩ = some (.slice oA n oc) ∧ W.cell? ⟨g, 1, none⟩ = some (.slice (some ⟨rb, ro, none⟩) M mc)) = S := ⟨_, rfl⟩
    have hS0 : S wo.drew := by rw [← hS]; exact ⟨o0, s0⟩
    refine wp_region_head 12 S (by rfl) (by kernel_rfl) ?_
    have hX := hide (show ∀ W : World, S W → W.cell? ⟨w.heap.size, 0, none⟩ = some (.slice oA n oc) ∧ W.cell? ⟨g, 1, none⟩ = some (.slice (some ⟨rb, ro, none⟩) M mc) from fun W hSw => by rw [← hS] at hSw; exact hSw)
    iterate 11
     refine HT.nx (v := ?_) rfl (by kernel_rfl) (fun _ _ _ h => h) (Or.inl ⟨by rfl, ?_⟩) ‹_› ?_
     rotate_left
     ·intro W hSw; have hSw := hX.out W hSw; go_simp; with_reducible rfl
     simp only [Act.put, zzA, zzZ, zzS]
    clear hX
    refine HT.one 11 rfl (by kernel_rfl) (by rfl) (fun K hK => ?_)
    have hmA := Hm.out.at_ (V := wo.drew) (fun h k => h.keeps k) (fun h k => h.mono k) (below_drew (Below.refl _ _))
    refine wp_append_row _ (.tmp 148) (.tmp 154) 126 rfl (w.heap.size + 1) 214 i9 _ 5 40 Tryz.underlying126 hi9 hz9 hs9 hb9 rfl (by omega) (.slice oA n oc) n us rfl (by have q := hmA.own; rw [Hn.out] at q; exact q) F (some ⟨rb, ro + i * 5, none⟩) (M - i) (mc - i) (xs.drop (i * 5)) rfl (Hd.out.1.keeps (Keeps.below (below_drew Hm.out.below) HF.out)) Hd1.out (by omega) (by omega) (by show w.heap.size + 1 ≤ wo.heap.size; omega) ?_
    intro v' w3 hown3 hg3 hat3
    have hlo3 := hmA.own.lt
    have hstep := hmA.step HF.out (add := m.drop i) (fun h k => h.keeps k) (fun h k => h.mono k) (by rw [Hn.out, List.length_drop, HM.out.1]; exact hown3) hg3 hat3 (Hd.out.2.mono fun _ _ h => (h.keeps (Keeps.below hmA.below HF.out)).mono (Apart.old HF.out hmA))
    have hne : ∀ b, b ≤ w.heap.size → some b ≠ (Value.slice oA n oc).ownBlock := fun b hb e => by have := (hlo3 b e.symm).1; omega
    have hS3 : S w3 := by
     rw [← hS] at hS0 ⊢
     exact ⟨((gcell hg3).1 _ _ (by show _ < wo.heap.size; omega) (hne _ (by omega))).trans hS0.1, ((gcell hg3).1 _ _ (by show _ < wo.heap.size; have := HG.out.1; have := HG.out.2.1; omega) (hne _ (by have := HG.out.1; have := HG.out.2.1; omega))).trans hS0.2⟩
    go_simp
    refine hK.out _ _ hS3 ?_
    clear hK K
    refine HT.done (by kernel_rfl) ?_
    simp only [List.drop_succ_cons, List.drop_zero]
    have hO3 : Bk w3 w.heap.size 128 #[.slice oA n oc] := hmA.bk.grown hg3 (hne _ (Nat.le_refl _))
    have z0 := hO3.cell 0
    have z1 := hO3.free 0
    have hsz3 : wo.heap.size ≤ w3.heap.size := hg3.size
    simp at z0
    obtain ⟨nA, nc, rfl, _, _⟩ := own_form hown3
    have gz0 : w3.cell? ⟨g, 1, none⟩ = some (.slice (some ⟨rb, ro, none⟩) M mc) := ((gcell hg3).1 _ _ (by show _ < wo.heap.size; have := HG.out.1; omega) (hne _ (by have := HG.out.1; omega))).trans s0
    have gz1 : w3.cell? ⟨g', 1, none⟩ = some (.slice MB M1 md) := ((gcell hg3).1 _ _ (by show _ < wo.heap.size; have := HG.out.2.1; omega) (hne _ (by have := HG.out.2.1; omega))).trans t0
    have gz2 := HG.out.1
    have gz3 := HG.out.2.1
    have Hs := hide hstep
    clear hS0 hS3 hS hmA hown3 hg3 hat3 hlo3 hstep hne hO3 o0 s0 t0
    go_wp2
    go_ret
    exact ⟨rfl, _, _, by have e : R = done ++ m.drop i := (HRR.out.symm.trans Heq.out).trans (by simp [SOp.less]); rw [e]; exact Hs.out⟩
  ·have hki1 : ¬ (i : Int) < (M : Int) := by omega
   rw [mrg_end_l (show m.length ≤ i by rw [HM.out.1]; omega)] at heq
   have Heq := hide heq
   clear heq ec
   go_wp2
   go_ret
   exact ⟨rfl, _, _, by have e : R = done := (HRR.out.symm.trans Heq.out).trans (by simp [SOp.less]); rw [e]; exact Hm.out⟩

end Go.Proofs.YtbicoknghdgahaaGreat
