/- Parts: MrgKU, AlgQ, UnionP. -/
import Derived.Test.YtbicoknghdgahaaGreatKG01
set_option linter.unusedVariables false
set_option linter.unusedSimpArgs false
namespace Go.Proofs.YtbicoknghdgahaaGreat
open Go.RowKit
attribute [local go_sem] run_store_float

set_option maxRecDepth 100000 in
set_option maxHeartbeats 16000000 in
theorem nmUnion_calls {u : St → St → St} {P P' : St → Prop} (IH : ∀ {F : Nat → Prop} {W : World} {ga gb : Nat} {s t : St}, (∀ b, F b → b < W.heap.size) → SetR F W ga s → SetR F W gb t → P s → P' t → Calls Tryz.prog 82 #[.pointer (some ⟨ga, 0, none⟩), .pointer (some ⟨gb, 0, none⟩)] W (GivesF F (u s t) W))
  {F : Nat → Prop} {w : World} {g g' : Nat} {m m' : List (E × St)} {MA MB : Option Addr} {mc md : Nat} {xs ys : List Value} (hP : ∀ k ∈ m, P k.2) (hP' : ∀ k ∈ m', P' k.2) (hF : ∀ b, F b → b < w.heap.size) (hg : g < w.heap.size) (hg' : g' < w.heap.size) (m0 : w.cell? ⟨g, 1, none⟩ = some (.slice MA m.length mc)) (n0 : w.cell? ⟨g', 1, none⟩ = some (.slice MB m'.length md))
  (hmc : m.length ≤ mc) (hmd : m'.length ≤ md) (hr : Row F w 5 MA m.length xs) (hr' : Row F w 5 MB m'.length ys) (hx : Cells 5 (KQ F w) m xs) (hy : Cells 5 (KQ F w) m' ys) (h47 : (m.length + m'.length) * 40 ≤ R47) :
  Calls Tryz.prog 132 #[.pointer (some ⟨g, 1, none⟩), .pointer (some ⟨g', 1, none⟩)] w (fun en w' => en = .returned (.pointer (some ⟨w.heap.size, 0, none⟩)) ∧ ∃ s us, Mg 5 128 214 KQ F w (mrg kcmp SOp.un.kl SOp.un.kr (SOp.un.kid u) m m') s w' us) := by
 have h47' : (m.length + m'.length) * 40 ≤ 140737488351232 := h47
 obtain ⟨i9, hi9, hz9, hs9, hb9⟩ := info_parts node_info
 obtain ⟨M, hM⟩ : ∃ M, m.length = M := ⟨_, rfl⟩
 obtain ⟨M1, hM1⟩ : ∃ M1, m'.length = M1 := ⟨_, rfl⟩
 have HM := hide (And.intro hM hM1)
 rw [hM] at m0 hmc hr h47'
 rw [hM1] at n0 hmd hr' h47'
 have HG := hide (And.intro hg (And.intro hg' (And.intro m0 (And.intro n0 (And.intro hr (And.intro hr' (And.intro hx hy)))))))
 obtain ⟨R, hR⟩ : ∃ R, mrg kcmp SOp.un.kl SOp.un.kr (SOp.un.kid u) m m' = R := ⟨_, rfl⟩
 rw [hR]
 have HRR := hide hR
 have HF := hide hF
 have HP := hide (And.intro hP hP')
 clear hr hr' hx hy h47 hM hM1 hR hF hP hP'
 have hb0 : Below w.heap.size w (w.alloc (.cells #[.slice none 0 0] 128)) := (Below.refl _ _).alloc (Nat.le_refl _) _
 have hm0 : Mg 5 128 214 KQ F w ([] : List (E × St)) (.slice none 0 0) (w.alloc (.cells #[.slice none 0 0] 128)) [] := Mg.start hb0 (Bk.new _ _ _)
 have Hm0 := hide hm0
 clear hm0 hb0
 go_enter Tryz.func132, Tryz.ntmps132
 go_wp2_with fail
 go_loopw [6, 7] (fun s6 s7 W => MKInv SOp.un.kl SOp.un.kr (SOp.un.kid u) F w m m' s6 s7 W) (fun s6 s7 _ => (m.length - (intOf s6).toNat) + (m'.length - (intOf s7).toNat))
 case atStart => exact ⟨0, 0, [], _, [], rfl, rfl, Nat.zero_le _, Nat.zero_le _, Nat.le_refl _, rfl, Hm0.out⟩
 case round =>
  clear m0 n0
  obtain ⟨i, j, done, s, us, rfl, rfl, hi, hj, hdl, heq, hm⟩ := hrel
  rw [HM.out.1] at hi
  rw [HM.out.2] at hj
  have hki0 : (0 : Int) ≤ (i : Int) := Int.natCast_nonneg _
  have hkj0 : (0 : Int) ≤ (j : Int) := Int.natCast_nonneg _
  obtain ⟨n, hn⟩ : ∃ n, done.length = n := ⟨_, rfl⟩
  have hown := hm.own
  rw [hn] at hdl hown
  obtain ⟨oA, oc, rfl, hoc1, hoc2⟩ := own_form hown
  have Hn := hide hn
  have Hm := hide hm
  clear hn hown hm
  obtain ⟨wo, hwo⟩ : ∃ W, W = wr := ⟨_, rfl⟩
  subst hwo
  have ec := (bcell Hm.out.below).1
  have s0 := (ec _ 1 HG.out.1).trans HG.out.2.2.1
  have t0 := (ec _ 1 HG.out.2.1).trans HG.out.2.2.2.1
  have o0 := Hm.out.bk.cell 0
  have ol := Hm.out.bk.lt
  have hwe : w.heap.size < wo.heap.size := ol
  simp at o0
  by_cases hi1 : i < M
  ·by_cases hj1 : j < M1
   ·have hki1 : (i : Int) < (M : Int) := by omega
    have hkj1 : (j : Int) < (M1 : Int) := by omega
    have hx' := HG.out.2.2.2.2.2.2.1.at_ (show i < m.length by rw [HM.out.1]; exact hi1)
    have hy' := HG.out.2.2.2.2.2.2.2.at_ (show j < m'.length by rw [HM.out.2]; exact hj1)
    rw [mrg_drop (show i < m.length by rw [HM.out.1]; exact hi1) (show j < m'.length by rw [HM.out.2]; exact hj1)] at heq
    have hPa := HP.out.1 _ (List.getElem_mem (show i < m.length by rw [HM.out.1]; exact hi1))
    have hPb := HP.out.2 _ (List.getElem_mem (show j < m'.length by rw [HM.out.2]; exact hj1))
    generalize m[i]'(by rw [HM.out.1]; exact hi1) = a at *
    generalize m'[j]'(by rw [HM.out.2]; exact hj1) = b at *
    generalize hcs : (xs.drop (i * 5)).take 5 = fcs at hx'
    generalize hds : (ys.drop (j * 5)).take 5 = gcs at hy'
    have hxk := hx'
    have hyk := hy'
    obtain ⟨p0, p1, p2, p3, pg, rfl, hxe, hxs⟩ := hx'.form
    obtain ⟨q0, q1, q2, q3, qg, rfl, hye, hys⟩ := hy'.form
    obtain ⟨rb, ro, rfl, hF1, hc⟩ := rown_at HG.out.2.2.2.2.1 hi1 hcs
    obtain ⟨sb, so, rfl, hF2, hd⟩ := rown_at HG.out.2.2.2.2.2.1 hj1 hds
    have HR := hide (And.intro (HF.out _ hF1) (And.intro (HF.out _ hF2) (And.intro hc hd)))
    have HLT := hide (show g < w.heap.size ∧ g' < w.heap.size ∧ rb < w.heap.size ∧ sb < w.heap.size from ⟨HG.out.1, HG.out.2.1, HF.out _ hF1, HF.out _ hF2⟩)
    have hrb : rb < w.heap.size := HF.out _ hF1
    have hsb : sb < w.heap.size := HF.out _ hF2
    clear hcs hds hc hd hF1 hF2
    have sc0 := (ec _ _ HR.out.1).trans (HR.out.2.2.1 0 _ rfl)
    have sc1 := (ec _ _ HR.out.1).trans (HR.out.2.2.1 1 _ rfl)
    have sc2 := (ec _ _ HR.out.1).trans (HR.out.2.2.1 2 _ rfl)
    have sc3 := (ec _ _ HR.out.1).trans (HR.out.2.2.1 3 _ rfl)
    have sc4 := (ec _ _ HR.out.1).trans (HR.out.2.2.1 4 _ rfl)
    have tc0 := (ec _ _ HR.out.2.1).trans (HR.out.2.2.2 0 _ rfl)
    have tc1 := (ec _ _ HR.out.2.1).trans (HR.out.2.2.2 1 _ rfl)
    have tc2 := (ec _ _ HR.out.2.1).trans (HR.out.2.2.2 2 _ rfl)
    have tc3 := (ec _ _ HR.out.2.1).trans (HR.out.2.2.2 3 _ rfl)
    have tc4 := (ec _ _ HR.out.2.1).trans (HR.out.2.2.2 4 _ rfl)
    rw [Nat.add_zero] at sc0 tc0
    obtain ⟨v, hv⟩ : ∃ v, decide (E.cmp a.1 b.1 < 0) = v := ⟨_, rfl⟩
    obtain ⟨v2, hv2⟩ : ∃ v2, decide (E.cmp b.1 a.1 < 0) = v2 := ⟨_, rfl⟩
    have HL := hide fun (W : World) (hb : Below w.heap.size w W) => less_calls ((hxe.mono HF.out : PEAt (Old w) w _ _).at_ hb) ((hye.mono HF.out : PEAt (Old w) w _ _).at_ hb)
    have HL2 := hide fun (W : World) (hb : Below w.heap.size w W) => less_calls ((hye.mono HF.out : PEAt (Old w) w _ _).at_ hb) ((hxe.mono HF.out : PEAt (Old w) w _ _).at_ hb)
    have HU := hide fun (W : World) (hb : Below w.heap.size w W) => IH (F := F) (W := W) (fun b hb' => Nat.lt_of_lt_of_le (HF.out b hb') hb.size) (hxs.keeps (Keeps.below hb HF.out)) (hys.keeps (Keeps.below hb HF.out)) hPa hPb
    rw [hv] at HL
    rw [hv2] at HL2
    have Hv := hide (And.intro hv hv2)
    have Heq := hide heq
    have HK := hide (And.intro hxk hyk)
    have HE := hide hxe
    clear hv hv2 heq ec hx' hy' hxk hyk hxe hye hxs hys hPa hPb
    go_wp2_with fail
    go_still_tail 16, (by kernel_rfl)
    change wpList _ _ _ _ _ wo.drew
    go_wp2_with fail
    refine (HL.out wo.drew (below_drew Hm.out.below)).mono ?_
    rintro en w5 ⟨rfl, hb5⟩
    have Hm5 := hide (Hm.out.at_ (fun h k => h.keeps k) (fun h k => h.mono k) (below_drew' hb5))
    clear hb5 o0 ol s0 t0 sc0 sc1 sc2 sc3 sc4 tc0 tc1 tc2 tc3 tc4 HL hwe Hm
    have Hm := Hm5
    clear Hm5
    have ec := (bcell Hm.out.below).1
    have s0 := (ec _ 1 HG.out.1).trans HG.out.2.2.1
    have t0 := (ec _ 1 HG.out.2.1).trans HG.out.2.2.2.1
    have o0 := Hm.out.bk.cell 0
    have ol := Hm.out.bk.lt
    have hwe : w.heap.size < w5.heap.size := ol
    simp at o0
    have sc0 := (ec _ _ HR.out.1).trans (HR.out.2.2.1 0 _ rfl)
    have sc1 := (ec _ _ HR.out.1).trans (HR.out.2.2.1 1 _ rfl)
    have sc2 := (ec _ _ HR.out.1).trans (HR.out.2.2.1 2 _ rfl)
    have sc3 := (ec _ _ HR.out.1).trans (HR.out.2.2.1 3 _ rfl)
    have sc4 := (ec _ _ HR.out.1).trans (HR.out.2.2.1 4 _ rfl)
    have tc0 := (ec _ _ HR.out.2.1).trans (HR.out.2.2.2 0 _ rfl)
    have tc1 := (ec _ _ HR.out.2.1).trans (HR.out.2.2.2 1 _ rfl)
    have tc2 := (ec _ _ HR.out.2.1).trans (HR.out.2.2.2 2 _ rfl)
    have tc3 := (ec _ _ HR.out.2.1).trans (HR.out.2.2.2 3 _ rfl)
    have tc4 := (ec _ _ HR.out.2.1).trans (HR.out.2.2.2 4 _ rfl)
    rw [Nat.add_zero] at sc0 tc0
    clear ec
    generalize w5 = w1 at *
    cases v
    ·skip
     go_wp2_with fail
     go_still_tail 16, (by kernel_rfl)
     change wpList _ _ _ _ _ w1.drew
     go_wp2_with fail
     refine (HL2.out w1.drew (below_drew Hm.out.below)).mono ?_
     rintro en w5 ⟨rfl, hb5⟩
     have Hm5 := hide (Hm.out.at_ (fun h k => h.keeps k) (fun h k => h.mono k) (below_drew' hb5))
     clear hb5 o0 ol s0 t0 sc0 sc1 sc2 sc3 sc4 tc0 tc1 tc2 tc3 tc4 HL2 hwe Hm
     have Hm := Hm5
     clear Hm5
     generalize w5 = w6 at *
     cases v2
     ·skip
      have ec := (bcell Hm.out.below).1
      have s0 := (ec _ 1 HG.out.1).trans HG.out.2.2.1
      have t0 := (ec _ 1 HG.out.2.1).trans HG.out.2.2.2.1
      have o0 := Hm.out.bk.cell 0
      have ol := Hm.out.bk.lt
      have hwe : w.heap.size < w6.heap.size := ol
      simp at o0
      have sc0 := (ec _ _ HR.out.1).trans (HR.out.2.2.1 0 _ rfl)
      have sc1 := (ec _ _ HR.out.1).trans (HR.out.2.2.1 1 _ rfl)
      have sc2 := (ec _ _ HR.out.1).trans (HR.out.2.2.1 2 _ rfl)
      have sc3 := (ec _ _ HR.out.1).trans (HR.out.2.2.1 3 _ rfl)
      have sc4 := (ec _ _ HR.out.1).trans (HR.out.2.2.1 4 _ rfl)
      have tc0 := (ec _ _ HR.out.2.1).trans (HR.out.2.2.2 0 _ rfl)
      have tc1 := (ec _ _ HR.out.2.1).trans (HR.out.2.2.2 1 _ rfl)
      have tc2 := (ec _ _ HR.out.2.1).trans (HR.out.2.2.2 2 _ rfl)
      have tc3 := (ec _ _ HR.out.2.1).trans (HR.out.2.2.2 3 _ rfl)
      have tc4 := (ec _ _ HR.out.2.1).trans (HR.out.2.2.2 4 _ rfl)
      rw [Nat.add_zero] at sc0 tc0
      clear ec
      go_wp2_with fail
      obtain ⟨S, hS⟩ : ∃ S, MKS w.heap.size g g' rb (ro + i * 5) sb (so + j * 5) (.slice oA n oc) (.slice (some ⟨rb, ro, none⟩) M mc) (.slice (some ⟨sb, so, none⟩) M1 md) (.pointer p0) (.pointer p1) (.pointer p2) (.pointer p3) (.pointer (some ⟨pg, 0, none⟩)) (.pointer q0) (.pointer q1) (.pointer q2) (.pointer q3) (.pointer (some ⟨qg, 0, none⟩)) = S := ⟨_, rfl⟩
      have hS0 : S w6.drew := by rw [← hS]; exact ⟨⟨o0, s0, t0⟩, ⟨sc0, sc1, sc2, sc3, sc4⟩, tc0, tc1, tc2, tc3, tc4⟩
      refine wp_region_head 33 S (by rfl) (by kernel_rfl) ?_
      have hX := hide (show ∀ W : World, S W → MKS w.heap.size g g' rb (ro + i * 5) sb (so + j * 5) (.slice oA n oc) (.slice (some ⟨rb, ro, none⟩) M mc) (.slice (some ⟨sb, so, none⟩) M1 md) (.pointer p0) (.pointer p1) (.pointer p2) (.pointer p3) (.pointer (some ⟨pg, 0, none⟩)) (.pointer q0) (.pointer q1) (.pointer q2) (.pointer q3) (.pointer (some ⟨qg, 0, none⟩)) W from fun W hSw => by rw [← hS] at hSw; exact hSw)
      iterate 29
       refine HT.nx (v := ?_) rfl (by kernel_rfl) (fun _ _ _ h => h) (Or.inl ⟨by rfl, ?_⟩) ‹_› ?_
       rotate_left
       ·intro W hSw; obtain ⟨⟨s0, s1, s2⟩, ⟨c0, c1, c2, c3, c4⟩, d0, d1, d2, d3, d4⟩ := hX.out W hSw; go_simp; with_reducible rfl
       simp only [Act.put, zzA, zzZ, zzS]
      clear hX
      refine HT.one 29 rfl (by kernel_rfl) (by rfl) (fun K hK => ?_)
      go_simp
      refine (HU.out w6.drew (below_drew Hm.out.below)).mono ?_
      rintro en w5 ⟨g5, rfl, hset5, hb5⟩
      have hb5' : Below w6.heap.size w6 w5 := below_drew' hb5
      have hw65 : w6.heap.size ≤ w5.heap.size := hb5'.size
      have hS5 : S w5 := by
       rw [← hS] at hS0 ⊢
       exact hS0.to HLT.out fun b k hb => (bcell hb5').1 _ _ (by omega)
      have Hset := hide (show SetR (Apart F w (.slice oA n oc) w5) w5 g5 (u a.2 b.2) from hset5.mono fun b hb => Apart.new Hm.out hb5' b hb HF.out)
      have Hm5 := hide (Hm.out.at_ (fun h k => h.keeps k) (fun h k => h.mono k) hb5')
      clear hset5 hb5 hb5' hS0
      go_simp
      refine hK.out _ _ hS5 ?_
      clear hK K
      refine HT.take 30 (v := ?_) rfl (by kernel_rfl) (fun _ _ _ h => h) (Or.inl ⟨by rfl, ?_⟩) ‹_› ?_
      rotate_left
      ·intro W hSw; go_simp; with_reducible rfl
      simp only [Act.put, zzA, zzZ, zzS]
      refine HT.one 31 rfl (by kernel_rfl) (by rfl) (fun K hK => ?_)
      go_simp
      have hbA : Below w5.heap.size w5 (w5.alloc (.cells #[.pointer p0, .pointer p1, .pointer p2, .pointer p3, .pointer (some ⟨g5, 0, none⟩)] 214)) := (Below.refl _ _).alloc (Nat.le_refl _) _
      have hS1 : S (w5.alloc (.cells #[.pointer p0, .pointer p1, .pointer p2, .pointer p3, .pointer (some ⟨g5, 0, none⟩)] 214)) := by
       rw [← hS] at hS5 ⊢
       exact hS5.to HLT.out fun b k hb => (bcell hbA).1 _ _ (by omega)
      refine hK.out _ _ hS1 ?_
      clear hK K
      refine HT.one 32 rfl (by kernel_rfl) (by rfl) (fun K hK => ?_)
      have hmA := Hm5.out.at_ (fun h k => h.keeps k) (fun h k => h.mono k) hbA
      refine wp_append_row _ (.tmp 83) (.tmp 110) 126 rfl (w.heap.size + 1) 214 i9 _ 5 40 Tryz.underlying126 hi9 hz9 hs9 hb9 rfl (by omega) (.slice oA n oc) n us rfl (by have q := hmA.own; rw [Hn.out] at q; exact q) (fun _ => True) (some ⟨w5.heap.size, 0, none⟩) 1 1 [.pointer p0, .pointer p1, .pointer p2, .pointer p3, .pointer (some ⟨g5, 0, none⟩)] rfl (Row.of_bkp (Bk.new w5 214 ([.pointer p0, .pointer p1, .pointer p2, .pointer p3, .pointer (some ⟨g5, 0, none⟩)] : List Value).toArray) rfl trivial) (by simp [Value.oneCell']) (by omega) (by omega) (by show w.heap.size + 1 ≤ (w5.alloc (.cells #[.pointer p0, .pointer p1, .pointer p2, .pointer p3, .pointer (some ⟨g5, 0, none⟩)] 214)).heap.size; rw [World.size_alloc]; omega) ?_
      intro v' w3 hown3 hg3 hat3
      have hlo3 := hmA.own.lt
      have hstep := hmA.step HF.out (add := [(a.1, u a.2 b.2)]) (fun h k => h.keeps k) (fun h k => h.mono k) (by rw [Hn.out]; exact hown3) hg3 hat3 (Cells.one (KQ.mk_ (k := (a.1, u a.2 b.2)) ((HE.out.keeps (Keeps.below hmA.below HF.out)).mono (Apart.old HF.out hmA)) ((Hset.out.keeps (Keeps.below hbA fun b hb => hb.2.1)).mono fun b hb => hb.below hbA)) rfl)
      have hsz3 : w5.heap.size + 1 ≤ w3.heap.size := by have h1 : (w5.alloc (.cells #[.pointer p0, .pointer p1, .pointer p2, .pointer p3, .pointer (some ⟨g5, 0, none⟩)] 214)).heap.size ≤ w3.heap.size := hg3.size; rw [World.size_alloc] at h1; exact h1
      have hne : ∀ b, b ≤ w.heap.size → some b ≠ (Value.slice oA n oc).ownBlock := fun b hb e => by have := (hlo3 b e.symm).1; omega
      have hS3 : S w3 := by
       rw [← hS] at hS1 ⊢
       exact hS1.to HLT.out fun b k hb => (gcell hg3).1 _ _ (by show b < (w5.alloc (.cells #[.pointer p0, .pointer p1, .pointer p2, .pointer p3, .pointer (some ⟨g5, 0, none⟩)] 214)).heap.size; rw [World.size_alloc]; omega) (hne _ hb)
      go_simp
      refine hK.out _ _ hS3 ?_
      clear hK K
      refine HT.done (by kernel_rfl) ?_
      simp only [List.drop_succ_cons, List.drop_zero]
      have hO3 : Bk w3 w.heap.size 128 #[.slice oA n oc] := hmA.bk.grown hg3 (hne _ (Nat.le_refl _))
      have z0 := hO3.cell 0
      have z1 := hO3.free 0
      simp at z0
      obtain ⟨nA, nc, rfl, _, _⟩ := own_form hown3
      have Hs := hide (And.intro hstep hsz3)
      clear hS5 hS1 hS3 hS hbA hmA hown3 hg3 hat3 hlo3 hstep hsz3 hne hO3
      clear o0 s0 t0 sc0 sc1 sc2 sc3 sc4 tc0 tc1 tc2 tc3 tc4
      go_wp2_with fail
      exact ⟨⟨i + 1, j + 1, done ++ [(a.1, u a.2 b.2)], _, _, by go_num, by go_num, by rw [HM.out.1]; omega, by rw [HM.out.2]; omega, by rw [List.length_append, Hn.out]; show n + 1 ≤ _; omega, by rw [Heq.out, if_neg (show ¬ kcmp a b < 0 by simpa [kcmp] using Hv.out.1), if_neg (show ¬ kcmp b a < 0 by simpa [kcmp] using Hv.out.2)]; simp [SOp.kid, SOp.un], Hs.out.1⟩, by simp [intOf]; have := HM.out.1; have := HM.out.2; omega⟩
     ·skip
      have ec := (bcell Hm.out.below).1
      have s0 := (ec _ 1 HG.out.1).trans HG.out.2.2.1
      have t0 := (ec _ 1 HG.out.2.1).trans HG.out.2.2.2.1
      have o0 := Hm.out.bk.cell 0
      have ol := Hm.out.bk.lt
      have hwe : w.heap.size < w6.heap.size := ol
      simp at o0
      have sc0 := (ec _ _ HR.out.1).trans (HR.out.2.2.1 0 _ rfl)
      have sc1 := (ec _ _ HR.out.1).trans (HR.out.2.2.1 1 _ rfl)
      have sc2 := (ec _ _ HR.out.1).trans (HR.out.2.2.1 2 _ rfl)
      have sc3 := (ec _ _ HR.out.1).trans (HR.out.2.2.1 3 _ rfl)
      have sc4 := (ec _ _ HR.out.1).trans (HR.out.2.2.1 4 _ rfl)
      have tc0 := (ec _ _ HR.out.2.1).trans (HR.out.2.2.2 0 _ rfl)
      have tc1 := (ec _ _ HR.out.2.1).trans (HR.out.2.2.2 1 _ rfl)
      have tc2 := (ec _ _ HR.out.2.1).trans (HR.out.2.2.2 2 _ rfl)
      have tc3 := (ec _ _ HR.out.2.1).trans (HR.out.2.2.2 3 _ rfl)
      have tc4 := (ec _ _ HR.out.2.1).trans (HR.out.2.2.2 4 _ rfl)
      rw [Nat.add_zero] at sc0 tc0
      clear ec HU
      go_wp2_with fail
      obtain ⟨S, hS⟩ : ∃ S, MKS w.heap.size g g' rb (ro + i * 5) sb (so + j * 5) (.slice oA n oc) (.slice (some ⟨rb, ro, none⟩) M mc) (.slice (some ⟨sb, so, none⟩) M1 md) (.pointer p0) (.pointer p1) (.pointer p2) (.pointer p3) (.pointer (some ⟨pg, 0, none⟩)) (.pointer q0) (.pointer q1) (.pointer q2) (.pointer q3) (.pointer (some ⟨qg, 0, none⟩)) = S := ⟨_, rfl⟩
      have hS0 : S w6.drew := by rw [← hS]; exact ⟨⟨o0, s0, t0⟩, ⟨sc0, sc1, sc2, sc3, sc4⟩, tc0, tc1, tc2, tc3, tc4⟩
      refine wp_region_head 14 S (by rfl) (by kernel_rfl) ?_
      have hX := hide (show ∀ W : World, S W → MKS w.heap.size g g' rb (ro + i * 5) sb (so + j * 5) (.slice oA n oc) (.slice (some ⟨rb, ro, none⟩) M mc) (.slice (some ⟨sb, so, none⟩) M1 md) (.pointer p0) (.pointer p1) (.pointer p2) (.pointer p3) (.pointer (some ⟨pg, 0, none⟩)) (.pointer q0) (.pointer q1) (.pointer q2) (.pointer q3) (.pointer (some ⟨qg, 0, none⟩)) W from fun W hSw => by rw [← hS] at hSw; exact hSw)
      iterate 12
       refine HT.nx (v := ?_) rfl (by kernel_rfl) (fun _ _ _ h => h) (Or.inl ⟨by rfl, ?_⟩) ‹_› ?_
       rotate_left
       ·intro W hSw; obtain ⟨⟨s0, s1, s2⟩, ⟨c0, c1, c2, c3, c4⟩, d0, d1, d2, d3, d4⟩ := hX.out W hSw; go_simp; with_reducible rfl
       simp only [Act.put, zzA, zzZ, zzS]
      clear hX
      refine HT.one 12 rfl (by kernel_rfl) (by rfl) (fun K hK => ?_)
      go_simp
      have hbA : Below w6.heap.size w6 (w6.drew.alloc (.cells #[.pointer q0, .pointer q1, .pointer q2, .pointer q3, .pointer (some ⟨qg, 0, none⟩)] 214)) := (below_drew (Below.refl _ _)).alloc (Nat.le_refl _) _
      have hS1 : S (w6.drew.alloc (.cells #[.pointer q0, .pointer q1, .pointer q2, .pointer q3, .pointer (some ⟨qg, 0, none⟩)] 214)) := by
       rw [← hS] at hS0 ⊢
       exact hS0.to HLT.out fun b k hb => (bcell hbA).1 _ _ (by omega)
      refine hK.out _ _ hS1 ?_
      clear hK K
      refine HT.one 13 rfl (by kernel_rfl) (by rfl) (fun K hK => ?_)
      have hmA := Hm.out.at_ (fun h k => h.keeps k) (fun h k => h.mono k) hbA
      refine wp_append_row _ (.tmp 120) (.tmp 128) 126 rfl (w.heap.size + 1) 214 i9 _ 5 40 Tryz.underlying126 hi9 hz9 hs9 hb9 rfl (by omega) (.slice oA n oc) n us rfl (by have q := hmA.own; rw [Hn.out] at q; exact q) (fun _ => True) (some ⟨w6.heap.size, 0, none⟩) 1 1 [.pointer q0, .pointer q1, .pointer q2, .pointer q3, .pointer (some ⟨qg, 0, none⟩)] rfl (Row.of_bkp (Bk.new w6.drew 214 ([.pointer q0, .pointer q1, .pointer q2, .pointer q3, .pointer (some ⟨qg, 0, none⟩)] : List Value).toArray) rfl trivial) (by simp [Value.oneCell']) (by omega) (by omega) (by show w.heap.size + 1 ≤ (w6.alloc (.cells #[.pointer q0, .pointer q1, .pointer q2, .pointer q3, .pointer (some ⟨qg, 0, none⟩)] 214)).heap.size; rw [World.size_alloc]; omega) ?_
      intro v' w3 hown3 hg3 hat3
      have hlo3 := hmA.own.lt
      have hstep := hmA.step HF.out (add := [b]) (fun h k => h.keeps k) (fun h k => h.mono k) (by rw [Hn.out]; exact hown3) hg3 hat3 (Cells.one ((HK.out.2.keeps (Keeps.below hmA.below HF.out)).mono (Apart.old HF.out hmA)) rfl)
      have hsz3 : w6.heap.size + 1 ≤ w3.heap.size := by have h1 : (w6.alloc (.cells #[.pointer q0, .pointer q1, .pointer q2, .pointer q3, .pointer (some ⟨qg, 0, none⟩)] 214)).heap.size ≤ w3.heap.size := hg3.size; rw [World.size_alloc] at h1; exact h1
      have hne : ∀ b, b ≤ w.heap.size → some b ≠ (Value.slice oA n oc).ownBlock := fun b hb e => by have := (hlo3 b e.symm).1; omega
      have hS3 : S w3 := by
       rw [← hS] at hS1 ⊢
       exact hS1.to HLT.out fun b k hb => (gcell hg3).1 _ _ (by show b < (w6.alloc (.cells #[.pointer q0, .pointer q1, .pointer q2, .pointer q3, .pointer (some ⟨qg, 0, none⟩)] 214)).heap.size; rw [World.size_alloc]; omega) (hne _ hb)
      go_simp
      refine hK.out _ _ hS3 ?_
      clear hK K
      refine HT.done (by kernel_rfl) ?_
      simp only [List.drop_succ_cons, List.drop_zero]
      have hO3 : Bk w3 w.heap.size 128 #[.slice oA n oc] := hmA.bk.grown hg3 (hne _ (Nat.le_refl _))
      have z0 := hO3.cell 0
      have z1 := hO3.free 0
      simp at z0
      obtain ⟨nA, nc, rfl, _, _⟩ := own_form hown3
      have Hs := hide (And.intro hstep hsz3)
      clear hS0 hS1 hS3 hS hbA hmA hown3 hg3 hat3 hlo3 hstep hsz3 hne hO3
      clear o0 s0 t0 sc0 sc1 sc2 sc3 sc4 tc0 tc1 tc2 tc3 tc4
      go_wp2_with fail
      exact ⟨⟨i, j + 1, done ++ [b], _, _, by go_num, by go_num, by rw [HM.out.1]; omega, by rw [HM.out.2]; omega, by rw [List.length_append, Hn.out]; show n + 1 ≤ _; omega, by rw [Heq.out, if_neg (show ¬ kcmp a b < 0 by simpa [kcmp] using Hv.out.1), if_pos (show kcmp b a < 0 by simpa [kcmp] using Hv.out.2)]; simp [SOp.un], Hs.out.1⟩, by simp [intOf]; have := HM.out.1; have := HM.out.2; omega⟩
    ·skip
     clear HU HL2
     go_wp2_with fail
     obtain ⟨S, hS⟩ : ∃ S, MKS w.heap.size g g' rb (ro + i * 5) sb (so + j * 5) (.slice oA n oc) (.slice (some ⟨rb, ro, none⟩) M mc) (.slice (some ⟨sb, so, none⟩) M1 md) (.pointer p0) (.pointer p1) (.pointer p2) (.pointer p3) (.pointer (some ⟨pg, 0, none⟩)) (.pointer q0) (.pointer q1) (.pointer q2) (.pointer q3) (.pointer (some ⟨qg, 0, none⟩)) = S := ⟨_, rfl⟩
     have hS0 : S w1.drew := by rw [← hS]; exact ⟨⟨o0, s0, t0⟩, ⟨sc0, sc1, sc2, sc3, sc4⟩, tc0, tc1, tc2, tc3, tc4⟩
     refine wp_region_head 14 S (by rfl) (by kernel_rfl) ?_
     have hX := hide (show ∀ W : World, S W → MKS w.heap.size g g' rb (ro + i * 5) sb (so + j * 5) (.slice oA n oc) (.slice (some ⟨rb, ro, none⟩) M mc) (.slice (some ⟨sb, so, none⟩) M1 md) (.pointer p0) (.pointer p1) (.pointer p2) (.pointer p3) (.pointer (some ⟨pg, 0, none⟩)) (.pointer q0) (.pointer q1) (.pointer q2) (.pointer q3) (.pointer (some ⟨qg, 0, none⟩)) W from fun W hSw => by rw [← hS] at hSw; exact hSw)
     iterate 12
      refine HT.nx (v := ?_) rfl (by kernel_rfl) (fun _ _ _ h => h) (Or.inl ⟨by rfl, ?_⟩) ‹_› ?_
      rotate_left
      ·intro W hSw; obtain ⟨⟨s0, s1, s2⟩, ⟨c0, c1, c2, c3, c4⟩, d0, d1, d2, d3, d4⟩ := hX.out W hSw; go_simp; with_reducible rfl
      simp only [Act.put, zzA, zzZ, zzS]
     clear hX
     refine HT.one 12 rfl (by kernel_rfl) (by rfl) (fun K hK => ?_)
     go_simp
     have hbA : Below w1.heap.size w1 (w1.drew.alloc (.cells #[.pointer p0, .pointer p1, .pointer p2, .pointer p3, .pointer (some ⟨pg, 0, none⟩)] 214)) := (below_drew (Below.refl _ _)).alloc (Nat.le_refl _) _
     have hS1 : S (w1.drew.alloc (.cells #[.pointer p0, .pointer p1, .pointer p2, .pointer p3, .pointer (some ⟨pg, 0, none⟩)] 214)) := by
      rw [← hS] at hS0 ⊢
      exact hS0.to HLT.out fun b k hb => (bcell hbA).1 _ _ (by omega)
     refine hK.out _ _ hS1 ?_
     clear hK K
     refine HT.one 13 rfl (by kernel_rfl) (by rfl) (fun K hK => ?_)
     have hmA := Hm.out.at_ (fun h k => h.keeps k) (fun h k => h.mono k) hbA
     refine wp_append_row _ (.tmp 47) (.tmp 55) 126 rfl (w.heap.size + 1) 214 i9 _ 5 40 Tryz.underlying126 hi9 hz9 hs9 hb9 rfl (by omega) (.slice oA n oc) n us rfl (by have q := hmA.own; rw [Hn.out] at q; exact q) (fun _ => True) (some ⟨w1.heap.size, 0, none⟩) 1 1 [.pointer p0, .pointer p1, .pointer p2, .pointer p3, .pointer (some ⟨pg, 0, none⟩)] rfl (Row.of_bkp (Bk.new w1.drew 214 ([.pointer p0, .pointer p1, .pointer p2, .pointer p3, .pointer (some ⟨pg, 0, none⟩)] : List Value).toArray) rfl trivial) (by simp [Value.oneCell']) (by omega) (by omega) (by show w.heap.size + 1 ≤ (w1.alloc (.cells #[.pointer p0, .pointer p1, .pointer p2, .pointer p3, .pointer (some ⟨pg, 0, none⟩)] 214)).heap.size; rw [World.size_alloc]; omega) ?_
     intro v' w3 hown3 hg3 hat3
     have hlo3 := hmA.own.lt
     have hstep := hmA.step HF.out (add := [a]) (fun h k => h.keeps k) (fun h k => h.mono k) (by rw [Hn.out]; exact hown3) hg3 hat3 (Cells.one ((HK.out.1.keeps (Keeps.below hmA.below HF.out)).mono (Apart.old HF.out hmA)) rfl)
     have hsz3 : w1.heap.size + 1 ≤ w3.heap.size := by have h1 : (w1.alloc (.cells #[.pointer p0, .pointer p1, .pointer p2, .pointer p3, .pointer (some ⟨pg, 0, none⟩)] 214)).heap.size ≤ w3.heap.size := hg3.size; rw [World.size_alloc] at h1; exact h1
     have hne : ∀ b, b ≤ w.heap.size → some b ≠ (Value.slice oA n oc).ownBlock := fun b hb e => by have := (hlo3 b e.symm).1; omega
     have hS3 : S w3 := by
      rw [← hS] at hS1 ⊢
      exact hS1.to HLT.out fun b k hb => (gcell hg3).1 _ _ (by show b < (w1.alloc (.cells #[.pointer p0, .pointer p1, .pointer p2, .pointer p3, .pointer (some ⟨pg, 0, none⟩)] 214)).heap.size; rw [World.size_alloc]; omega) (hne _ hb)
     go_simp
     refine hK.out _ _ hS3 ?_
     clear hK K
     refine HT.done (by kernel_rfl) ?_
     simp only [List.drop_succ_cons, List.drop_zero]
     have hO3 : Bk w3 w.heap.size 128 #[.slice oA n oc] := hmA.bk.grown hg3 (hne _ (Nat.le_refl _))
     have z0 := hO3.cell 0
     have z1 := hO3.free 0
     simp at z0
     obtain ⟨nA, nc, rfl, _, _⟩ := own_form hown3
     have Hs := hide (And.intro hstep hsz3)
     clear hS0 hS1 hS3 hS hbA hmA hown3 hg3 hat3 hlo3 hstep hsz3 hne hO3
     clear o0 s0 t0 sc0 sc1 sc2 sc3 sc4 tc0 tc1 tc2 tc3 tc4
     go_wp2_with fail
     exact ⟨⟨i + 1, j, done ++ [a], _, _, by go_num, by go_num, by rw [HM.out.1]; omega, by rw [HM.out.2]; omega, by rw [List.length_append, Hn.out]; show n + 1 ≤ _; omega, by rw [Heq.out, if_pos (show kcmp a b < 0 by simpa [kcmp] using Hv.out.1)]; simp [SOp.un], Hs.out.1⟩, by simp [intOf]; have := HM.out.1; have := HM.out.2; omega⟩
   ·have hkj1 : ¬ (j : Int) < (M1 : Int) := by omega
    have hki1 : (i : Int) < (M : Int) := by omega
    rw [mrg_end_r (show m'.length ≤ j by rw [HM.out.2]; omega)] at heq
    have Heq := hide heq
    clear heq ec
    have hcne : ¬ mc = i := by omega
    have hic : (i : Int) ≤ (mc : Int) := by omega
    obtain ⟨rb, ro, rfl, hF1, hc⟩ := HG.out.2.2.2.2.1.2 (by omega)
    have hdrop := HG.out.2.2.2.2.1.drop_at (m := i) (by omega)
    have Hd := hide (And.intro hdrop (HG.out.2.2.2.2.2.2.1.drop_ i))
    have Hd1 := hide (kq_ones (HG.out.2.2.2.2.2.2.1.drop_ i))
    clear hdrop hc hF1
    go_wp2_with fail
    obtain ⟨S, hS⟩ : ∃ S : World → Prop, (fun W => W.cell? ⟨w.heap.size, 0, none⟩ = some (.slice oA n oc) ∧ W.cell? ⟨g, 1, none⟩ = some (.slice (some ⟨rb, ro, none⟩) M mc)) = S := ⟨_, rfl⟩
    have hS0 : S wo.drew := by rw [← hS]; exact ⟨o0, s0⟩
    refine wp_region_head 12 S (by rfl) (by kernel_rfl) ?_
    have hX := hide (show ∀ W : World, S W → W.cell? ⟨w.heap.size, 0, none⟩ = some (.slice oA n oc) ∧ W.cell? ⟨g, 1, none⟩ = some (.slice (some ⟨rb, ro, none⟩) M mc) from fun W hSw => by rw [← hS] at hSw; exact hSw)
    iterate 11
     refine HT.nx (v := ?_) rfl (by kernel_rfl) (fun _ _ _ h => h) (Or.inl ⟨by rfl, ?_⟩) ‹_› ?_
     rotate_left
     ·intro W hSw; have hSw := hX.out W hSw; go_simp; with_reducible rfl
     simp only [Act.put, zzA, zzZ, zzS]
    clear hX
    refine HT.one 11 rfl (by kernel_rfl) (by rfl) (fun K hK => ?_)
    have hmA := Hm.out.at_ (V := wo.drew) (fun h k => h.keeps k) (fun h k => h.mono k) (below_drew (Below.refl _ _))
    refine wp_append_row _ (.tmp 145) (.tmp 151) 126 rfl (w.heap.size + 1) 214 i9 _ 5 40 Tryz.underlying126 hi9 hz9 hs9 hb9 rfl (by omega) (.slice oA n oc) n us rfl (by have q := hmA.own; rw [Hn.out] at q; exact q) F (some ⟨rb, ro + i * 5, none⟩) (M - i) (mc - i) (xs.drop (i * 5)) rfl (Hd.out.1.keeps (Keeps.below (below_drew Hm.out.below) HF.out)) Hd1.out (by omega) (by omega) (by show w.heap.size + 1 ≤ wo.heap.size; omega) ?_
    intro v' w3 hown3 hg3 hat3
    have hlo3 := hmA.own.lt
    have hstep := hmA.step HF.out (add := m.drop i) (fun h k => h.keeps k) (fun h k => h.mono k) (by rw [Hn.out, List.length_drop, HM.out.1]; exact hown3) hg3 hat3 (Hd.out.2.mono fun _ _ h => (h.keeps (Keeps.below hmA.below HF.out)).mono (Apart.old HF.out hmA))
    have hne : ∀ b, b ≤ w.heap.size → some b ≠ (Value.slice oA n oc).ownBlock := fun b hb e => by have := (hlo3 b e.symm).1; omega
    have hS3 : S w3 := by
     rw [← hS] at hS0 ⊢
     exact ⟨((gcell hg3).1 _ _ (by show _ < wo.heap.size; omega) (hne _ (by omega))).trans hS0.1, ((gcell hg3).1 _ _ (by show _ < wo.heap.size; have := HG.out.1; have := HG.out.2.1; omega) (hne _ (by have := HG.out.1; have := HG.out.2.1; omega))).trans hS0.2⟩
    go_simp
    refine hK.out _ _ hS3 ?_
    clear hK K
    refine HT.done (by kernel_rfl) ?_
    simp only [List.drop_succ_cons, List.drop_zero]
    have hO3 : Bk w3 w.heap.size 128 #[.slice oA n oc] := hmA.bk.grown hg3 (hne _ (Nat.le_refl _))
    have z0 := hO3.cell 0
    have z1 := hO3.free 0
    have hsz3 : wo.heap.size ≤ w3.heap.size := hg3.size
    simp at z0
    obtain ⟨nA, nc, rfl, _, _⟩ := own_form hown3
    have gz0 : w3.cell? ⟨g, 1, none⟩ = some (.slice (some ⟨rb, ro, none⟩) M mc) := ((gcell hg3).1 _ _ (by show _ < wo.heap.size; have := HG.out.1; omega) (hne _ (by have := HG.out.1; omega))).trans s0
    have gz1 : w3.cell? ⟨g', 1, none⟩ = some (.slice MB M1 md) := ((gcell hg3).1 _ _ (by show _ < wo.heap.size; have := HG.out.2.1; omega) (hne _ (by have := HG.out.2.1; omega))).trans t0
    have gz2 := HG.out.1
    have gz3 := HG.out.2.1
    have Hs := hide hstep
    clear hS0 hS3 hS hmA hown3 hg3 hat3 hlo3 hstep hne hO3 o0 s0 t0
    go_wp2
    go_ret
    exact ⟨rfl, _, _, by have e : R = done ++ m.drop i := (HRR.out.symm.trans Heq.out).trans (by simp [SOp.un]); rw [e]; exact Hs.out⟩
  ·have hki1 : ¬ (i : Int) < (M : Int) := by omega
   rw [mrg_end_l (show m.length ≤ i by rw [HM.out.1]; omega)] at heq
   by_cases hj1 : j < M1
   ·have hkj1 : (j : Int) < (M1 : Int) := by omega
    have Heq := hide heq
    clear heq ec
    have hcne : ¬ md = j := by omega
    have hic : (j : Int) ≤ (md : Int) := by omega
    obtain ⟨rb, ro, rfl, hF1, hc⟩ := HG.out.2.2.2.2.2.1.2 (by omega)
    have hdrop := HG.out.2.2.2.2.2.1.drop_at (m := j) (by omega)
    have Hd := hide (And.intro hdrop (HG.out.2.2.2.2.2.2.2.drop_ j))
    have Hd1 := hide (kq_ones (HG.out.2.2.2.2.2.2.2.drop_ j))
    clear hdrop hc hF1
    go_wp2_with fail
    obtain ⟨S, hS⟩ : ∃ S : World → Prop, (fun W => W.cell? ⟨w.heap.size, 0, none⟩ = some (.slice oA n oc) ∧ W.cell? ⟨g', 1, none⟩ = some (.slice (some ⟨rb, ro, none⟩) M1 md)) = S := ⟨_, rfl⟩
    have hS0 : S wo.drew := by rw [← hS]; exact ⟨o0, t0⟩
    refine wp_region_head 12 S (by rfl) (by kernel_rfl) ?_
    have hX := hide (show ∀ W : World, S W → W.cell? ⟨w.heap.size, 0, none⟩ = some (.slice oA n oc) ∧ W.cell? ⟨g', 1, none⟩ = some (.slice (some ⟨rb, ro, none⟩) M1 md) from fun W hSw => by rw [← hS] at hSw; exact hSw)
    iterate 11
     refine HT.nx (v := ?_) rfl (by kernel_rfl) (fun _ _ _ h => h) (Or.inl ⟨by rfl, ?_⟩) ‹_› ?_
     rotate_left
     ·intro W hSw; have hSw := hX.out W hSw; go_simp; with_reducible rfl
     simp only [Act.put, zzA, zzZ, zzS]
    clear hX
    refine HT.one 11 rfl (by kernel_rfl) (by rfl) (fun K hK => ?_)
    have hmA := Hm.out.at_ (V := wo.drew) (fun h k => h.keeps k) (fun h k => h.mono k) (below_drew (Below.refl _ _))
    refine wp_append_row _ (.tmp 166) (.tmp 172) 126 rfl (w.heap.size + 1) 214 i9 _ 5 40 Tryz.underlying126 hi9 hz9 hs9 hb9 rfl (by omega) (.slice oA n oc) n us rfl (by have q := hmA.own; rw [Hn.out] at q; exact q) F (some ⟨rb, ro + j * 5, none⟩) (M1 - j) (md - j) (ys.drop (j * 5)) rfl (Hd.out.1.keeps (Keeps.below (below_drew Hm.out.below) HF.out)) Hd1.out (by omega) (by omega) (by show w.heap.size + 1 ≤ wo.heap.size; omega) ?_
    intro v' w3 hown3 hg3 hat3
    have hlo3 := hmA.own.lt
    have hstep := hmA.step HF.out (add := m'.drop j) (fun h k => h.keeps k) (fun h k => h.mono k) (by rw [Hn.out, List.length_drop, HM.out.2]; exact hown3) hg3 hat3 (Hd.out.2.mono fun _ _ h => (h.keeps (Keeps.below hmA.below HF.out)).mono (Apart.old HF.out hmA))
    have hne : ∀ b, b ≤ w.heap.size → some b ≠ (Value.slice oA n oc).ownBlock := fun b hb e => by have := (hlo3 b e.symm).1; omega
    have hS3 : S w3 := by
     rw [← hS] at hS0 ⊢
     exact ⟨((gcell hg3).1 _ _ (by show _ < wo.heap.size; omega) (hne _ (by omega))).trans hS0.1, ((gcell hg3).1 _ _ (by show _ < wo.heap.size; have := HG.out.1; have := HG.out.2.1; omega) (hne _ (by have := HG.out.1; have := HG.out.2.1; omega))).trans hS0.2⟩
    go_simp
    refine hK.out _ _ hS3 ?_
    clear hK K
    refine HT.done (by kernel_rfl) ?_
    simp only [List.drop_succ_cons, List.drop_zero]
    have hO3 : Bk w3 w.heap.size 128 #[.slice oA n oc] := hmA.bk.grown hg3 (hne _ (Nat.le_refl _))
    have z0 := hO3.cell 0
    have z1 := hO3.free 0
    have hsz3 : wo.heap.size ≤ w3.heap.size := hg3.size
    simp at z0
    obtain ⟨nA, nc, rfl, _, _⟩ := own_form hown3
    have gz0 : w3.cell? ⟨g, 1, none⟩ = some (.slice MA M mc) := ((gcell hg3).1 _ _ (by show _ < wo.heap.size; have := HG.out.1; omega) (hne _ (by have := HG.out.1; omega))).trans s0
    have gz1 : w3.cell? ⟨g', 1, none⟩ = some (.slice (some ⟨rb, ro, none⟩) M1 md) := ((gcell hg3).1 _ _ (by show _ < wo.heap.size; have := HG.out.2.1; omega) (hne _ (by have := HG.out.2.1; omega))).trans t0
    have gz2 := HG.out.1
    have gz3 := HG.out.2.1
    have Hs := hide hstep
    clear hS0 hS3 hS hmA hown3 hg3 hat3 hlo3 hstep hne hO3 o0 s0 t0
    go_wp2
    go_ret
    exact ⟨rfl, _, _, by have e : R = done ++ m'.drop j := (HRR.out.symm.trans Heq.out).trans (by simp [SOp.un]); rw [e]; exact Hs.out⟩
   ·have hkj1 : ¬ (j : Int) < (M1 : Int) := by omega
    rw [List.drop_eq_nil_of_le (show m'.length ≤ j by rw [HM.out.2]; omega)] at heq
    have Heq := hide heq
    clear heq ec
    go_wp2
    go_ret
    exact ⟨rfl, _, _, by have e : R = done := (HRR.out.symm.trans Heq.out).trans (by simp [SOp.un]); rw [e]; exact Hm.out⟩

end Go.Proofs.YtbicoknghdgahaaGreat

namespace Go.Proofs.YtbicoknghdgahaaGreat

theorem pathsK_cons (k : E × St) (a : List (E × St)) : (St.pathsK (k :: a)).length = k.2.paths.length + (St.pathsK a).length := by
 obtain ⟨e, s⟩ := k
 rw [St.pathsK, List.length_append, List.length_map]
theorem mrgK_count {o : SOp} {kl kr : Bool} {u : St → St → St} : ∀ {l m : List (E × St)}, (∀ a ∈ l, ∀ b ∈ m, (u a.2 b.2).paths.length ≤ a.2.paths.length + b.2.paths.length) → (St.pathsK (mrg kcmp kl kr (o.kid u) l m)).length ≤ (St.pathsK l).length + (St.pathsK m).length
 | [], m, _ => by rw [mrg_nil_l]; split <;> simp [St.pathsK]
 | a :: l, [], _ => by rw [mrg_nil_r]; split <;> simp [St.pathsK]
 | a :: l, b :: m, h => by
  have w1 : (St.pathsK (mrg kcmp kl kr (o.kid u) l (b :: m))).length ≤ _ := mrgK_count fun x hx y hy => h x (by simp [hx]) y hy
  have w2 : (St.pathsK (mrg kcmp kl kr (o.kid u) (a :: l) m)).length ≤ _ := mrgK_count fun x hx y hy => h x hx y (by simp [hy])
  have w3 : (St.pathsK (mrg kcmp kl kr (o.kid u) l m)).length ≤ _ := mrgK_count fun x hx y hy => h x (by simp [hx]) y (by simp [hy])
  have w4 := h a (by simp) b (by simp)
  rw [pathsK_cons] at w1 w2
  rw [mrg_cons, pathsK_cons, pathsK_cons]
  split
  ·split
   ·rw [pathsK_cons]; omega
   ·omega
  ·split
   ·split
    ·rw [pathsK_cons]; omega
    ·omega
   ·cases hk : o.kid u a b with
    | none => rw [Option.toList_none, List.nil_append]; omega
    | some x => rw [kid_eq hk, Option.toList_some, List.cons_append, List.nil_append, pathsK_cons]; simp only; omega
termination_by l m => l.length + m.length
theorem ap_count {o : SOp} : ∀ {n : Nat} {s t : St}, (o.ap n s t).paths.length ≤ s.paths.length + t.paths.length
 | 0, _, _ => by simp [SOp.ap, St.empty, St.paths, St.pathsK]
 | n + 1, .mk m ks, .mk m' ks' => by
  have h1 := mrg_length (c := E.cmp) (kl := o.kl) (kr := o.kr) (f := o.el) (l := m) (m := m')
  have h2 := mrgK_count (o := o) (kl := o.kl) (kr := o.kr) (u := o.ap n) (l := ks) (m := ks') fun a _ b _ => ap_count
  rw [show o.ap (n + 1) (.mk m ks) (.mk m' ks') = .mk (mrg E.cmp o.kl o.kr o.el m m') (mrg kcmp o.kl o.kr (o.kid (o.ap n)) ks ks') from rfl, paths_mk, paths_mk, paths_mk]
  simp only [List.length_append, List.length_map]
  omega
theorem el_all {o : SOp} {P : E → Prop} {a b x : E} (ha : P a) (hb : P b) (e : o.el a b = some x) : P x := by
 unfold SOp.el at e
 split at e
 ·split at e
  ·cases e; exact hb
  ·cases e; exact ha
 ·cases e
theorem ap_all {o : SOp} {P : E → Prop} : ∀ {n : Nat} {s t : St}, s.All P → t.All P → (o.ap n s t).All P
 | 0, _, _, _, _ => St.All.empty_ P
 | n + 1, .mk m ks, .mk m' ks', hs, ht => by
  cases hs with
  | mk h1 h2 h3 =>
  cases ht with
  | mk i1 i2 i3 =>
  refine .mk (fun e he => ?_) (fun k hk => ?_) fun k hk => ?_
  ·rcases mrg_mem he with h | h | ⟨x, hx, y, hy, -, -, e⟩
   ·exact h1 e h
   ·exact i1 e h
   ·exact el_all (h1 x hx) (i1 y hy) e
  ·rcases mrg_mem hk with h | h | ⟨x, hx, y, hy, -, -, e⟩
   ·exact h2 k h
   ·exact i2 k h
   ·rw [kid_eq e]; exact h2 x hx
  ·rcases mrg_mem hk with h | h | ⟨x, hx, y, hy, -, -, e⟩
   ·exact h3 k h
   ·exact i3 k h
   ·rw [kid_eq e]; exact ap_all (h3 x hx) (i3 y hy)
theorem ap_ht {o : SOp} : ∀ {n h : Nat} {s t : St}, s.Ht h → t.Ht h → (o.ap n s t).Ht h
 | 0, _, _, _, hs, _ => by
  cases hs with
  | mk hs => exact St.Ht.empty_ _
 | n + 1, _, .mk m ks, .mk m' ks', hs, ht => by
  cases hs with
  | mk h3 =>
  cases ht with
  | mk i3 =>
  refine .mk fun k hk => ?_
  rcases mrg_mem hk with h | h | ⟨x, hx, y, hy, -, -, e⟩
  ·exact h3 k h
  ·exact i3 k h
  ·rw [kid_eq e]; exact ap_ht (h3 x hx) (i3 y hy)

end Go.Proofs.YtbicoknghdgahaaGreat

namespace Go.Proofs.YtbicoknghdgahaaGreat

def apL (o : SOp) (n : Nat) (a b : List (List E)) : List (List E) := (o.ap n (setP a) (setP b)).paths
theorem apL_ok {o : SOp} {n : Nat} {a b : List (List E)} (ha : ∀ p ∈ a, POk p) (hb : ∀ p ∈ b, POk p) : ∀ p ∈ apL o n a b, POk p := paths_pok (ap_wf (setP_wf ha) (setP_wf hb))
theorem apL_count {o : SOp} {n : Nat} {a b : List (List E)} : (apL o n a b).length ≤ a.length + b.length := by
 have h1 := ap_count (o := o) (n := n) (s := setP a) (t := setP b)
 have h2 := setP_count a
 have h3 := setP_count b
 unfold apL
 omega
theorem apL_pws {o : SOp} {n : Nat} {P : E → Prop} {a b : List (List E)} (ha : ∀ p ∈ a, ∀ e ∈ p, P e) (hb : ∀ p ∈ b, ∀ e ∈ p, P e) : ∀ p ∈ apL o n a b, ∀ e ∈ p, P e := paths_all (ap_all (setP_all ha) (setP_all hb))
end Go.Proofs.YtbicoknghdgahaaGreat
