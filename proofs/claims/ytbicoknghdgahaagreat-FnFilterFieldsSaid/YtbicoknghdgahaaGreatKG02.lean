/- Parts: MrgE. -/
import Derived.Test.YtbicoknghdgahaaGreatKG01
set_option linter.unusedVariables false
set_option linter.unusedSimpArgs false
namespace Go.Proofs.YtbicoknghdgahaaGreat
open Go.RowKit
attribute [local go_sem] run_store_float

set_option maxRecDepth 100000 in
set_option maxHeartbeats 8000000 in
theorem esUnion_calls {F : Nat → Prop} {w : World} {g g' : Nat} {m m' : List E} {MA MB : Option Addr} {mc md : Nat} {xs ys : List Value} (hF : ∀ b, F b → b < w.heap.size) (hg : g < w.heap.size) (hg' : g' < w.heap.size) (m0 : w.cell? ⟨g, 0, none⟩ = some (.slice MA m.length mc)) (n0 : w.cell? ⟨g', 0, none⟩ = some (.slice MB m'.length md))
  (hmc : m.length ≤ mc) (hmd : m'.length ≤ md) (hr : Row F w 4 MA m.length xs) (hr' : Row F w 4 MB m'.length ys) (hx : Cells 4 (PEAt F w) m xs) (hy : Cells 4 (PEAt F w) m' ys) (h47 : (m.length + m'.length) * 32 ≤ R47) :
  Calls Tryz.prog 131 #[.pointer (some ⟨g, 0, none⟩), .pointer (some ⟨g', 0, none⟩)] w (fun en w' => en = .returned (.pointer (some ⟨w.heap.size, 0, none⟩)) ∧ ∃ s us, Mg 4 124 109 PEAt F w (mrg E.cmp SOp.un.kl SOp.un.kr SOp.un.el m m') s w' us) := by
 have h47' : (m.length + m'.length) * 32 ≤ 140737488351232 := h47
 obtain ⟨i9, hi9, hz9, hs9, hb9⟩ := info_parts pe_info
 obtain ⟨M, hM⟩ : ∃ M, m.length = M := ⟨_, rfl⟩
 obtain ⟨M1, hM1⟩ : ∃ M1, m'.length = M1 := ⟨_, rfl⟩
 have HM := hide (And.intro hM hM1)
 rw [hM] at m0 hmc hr h47'
 rw [hM1] at n0 hmd hr' h47'
 have HG := hide (And.intro hg (And.intro hg' (And.intro m0 (And.intro n0 (And.intro hr (And.intro hr' (And.intro hx hy)))))))
 obtain ⟨R, hR⟩ : ∃ R, mrg E.cmp SOp.un.kl SOp.un.kr SOp.un.el m m' = R := ⟨_, rfl⟩
 rw [hR]
 have HRR := hide hR
 have HF := hide hF
 clear hr hr' hx hy h47 hM hM1 hR hF
 have hb0 : Below w.heap.size w (w.alloc (.cells #[.slice none 0 0] 124)) := (Below.refl _ _).alloc (Nat.le_refl _) _
 have hm0 : Mg 4 124 109 PEAt F w ([] : List E) (.slice none 0 0) (w.alloc (.cells #[.slice none 0 0] 124)) [] := Mg.start hb0 (Bk.new _ _ _)
 have Hm0 := hide hm0
 clear hm0 hb0
 go_enter Tryz.func131, Tryz.ntmps131
 go_wp2_with fail
 go_loopw [6, 7] (fun s6 s7 W => MEInv SOp.un.kl SOp.un.kr SOp.un.el F w m m' s6 s7 W) (fun s6 s7 _ => (m.length - (intOf s6).toNat) + (m'.length - (intOf s7).toNat))
 case atStart => exact ⟨0, 0, [], _, [], rfl, rfl, Nat.zero_le _, Nat.zero_le _, Nat.le_refl _, rfl, Hm0.out⟩
 case round =>
  clear m0 n0
  obtain ⟨i, j, done, s, us, rfl, rfl, hi, hj, hdl, heq, hm⟩ := hrel
  rw [HM.out.1] at hi
  rw [HM.out.2] at hj
  have hki0 : (0 : Int) ≤ (i : Int) := Int.natCast_nonneg _
  have hkj0 : (0 : Int) ≤ (j : Int) := Int.natCast_nonneg _
  obtain ⟨n, hn⟩ : ∃ n, done.length = n := ⟨_, rfl⟩
  have hown := hm.own
  rw [hn] at hdl hown
  obtain ⟨oA, oc, rfl, hoc1, hoc2⟩ := own_form hown
  have Hn := hide hn
  have Hm := hide hm
  clear hn hown hm
  obtain ⟨wo, hwo⟩ : ∃ W, W = wr := ⟨_, rfl⟩
  subst hwo
  have ec := (bcell Hm.out.below).1
  have s0 := (ec _ 0 HG.out.1).trans HG.out.2.2.1
  have t0 := (ec _ 0 HG.out.2.1).trans HG.out.2.2.2.1
  have o0 := Hm.out.bk.cell 0
  have ol := Hm.out.bk.lt
  have hwe : w.heap.size < wo.heap.size := ol
  simp at o0
  by_cases hi1 : i < M
  ·by_cases hj1 : j < M1
   ·have hki1 : (i : Int) < (M : Int) := by omega
    have hkj1 : (j : Int) < (M1 : Int) := by omega
    have hx' := HG.out.2.2.2.2.2.2.1.at_ (show i < m.length by rw [HM.out.1]; exact hi1)
    have hy' := HG.out.2.2.2.2.2.2.2.at_ (show j < m'.length by rw [HM.out.2]; exact hj1)
    rw [mrg_drop (show i < m.length by rw [HM.out.1]; exact hi1) (show j < m'.length by rw [HM.out.2]; exact hj1)] at heq
    generalize m[i]'(by rw [HM.out.1]; exact hi1) = a at *
    generalize m'[j]'(by rw [HM.out.2]; exact hj1) = b at *
    generalize hcs : (xs.drop (i * 4)).take 4 = fcs at hx'
    generalize hds : (ys.drop (j * 4)).take 4 = gcs at hy'
    obtain ⟨p0, p1, p2, p3, rfl⟩ := hx'.form
    obtain ⟨q0, q1, q2, q3, rfl⟩ := hy'.form
    obtain ⟨rb, ro, rfl, hF1, hc⟩ := rown_at HG.out.2.2.2.2.1 hi1 hcs
    obtain ⟨sb, so, rfl, hF2, hd⟩ := rown_at HG.out.2.2.2.2.2.1 hj1 hds
    have HR := hide (And.intro (HF.out _ hF1) (And.intro (HF.out _ hF2) (And.intro hc hd)))
    have hrb : rb < w.heap.size := HF.out _ hF1
    have hsb : sb < w.heap.size := HF.out _ hF2
    clear hcs hds hc hd hF1 hF2

    have sc0 := (ec _ _ HR.out.1).trans (HR.out.2.2.1 0 _ rfl)
    have sc1 := (ec _ _ HR.out.1).trans (HR.out.2.2.1 1 _ rfl)
    have sc2 := (ec _ _ HR.out.1).trans (HR.out.2.2.1 2 _ rfl)
    have sc3 := (ec _ _ HR.out.1).trans (HR.out.2.2.1 3 _ rfl)
    have tc0 := (ec _ _ HR.out.2.1).trans (HR.out.2.2.2 0 _ rfl)
    have tc1 := (ec _ _ HR.out.2.1).trans (HR.out.2.2.2 1 _ rfl)
    have tc2 := (ec _ _ HR.out.2.1).trans (HR.out.2.2.2 2 _ rfl)
    have tc3 := (ec _ _ HR.out.2.1).trans (HR.out.2.2.2 3 _ rfl)
    rw [Nat.add_zero] at sc0 tc0
    obtain ⟨v, hv⟩ : ∃ v, decide (E.cmp a b < 0) = v := ⟨_, rfl⟩
    obtain ⟨v2, hv2⟩ : ∃ v2, decide (E.cmp b a < 0) = v2 := ⟨_, rfl⟩
    have HL := hide fun (W : World) (hb : Below w.heap.size w W) => less_calls ((hx'.mono HF.out : PEAt (Old w) w _ _).at_ hb) ((hy'.mono HF.out : PEAt (Old w) w _ _).at_ hb)
    have HL2 := hide fun (W : World) (hb : Below w.heap.size w W) => less_calls ((hy'.mono HF.out : PEAt (Old w) w _ _).at_ hb) ((hx'.mono HF.out : PEAt (Old w) w _ _).at_ hb)
    rw [hv] at HL
    rw [hv2] at HL2
    have Hv := hide (And.intro hv hv2)
    have Heq := hide heq
    have Hxy := hide (And.intro hx' hy')
    clear hv hv2 heq ec hx' hy'
    go_wp2_with fail
    go_still_tail 14, (by kernel_rfl)
    change wpList _ _ _ _ _ wo.drew
    go_wp2_with fail
    refine (HL.out wo.drew (below_drew Hm.out.below)).mono ?_
    rintro en w1 ⟨rfl, hb1⟩
    have Hm1 := hide (Hm.out.at_ (fun h k => h.keeps k) (fun h k => h.mono k) (below_drew' hb1))
    clear hb1 Hm o0 ol s0 t0 sc0 sc1 sc2 sc3 tc0 tc1 tc2 tc3 HL hwe
    have Hm := Hm1
    clear Hm1
    have ec := (bcell Hm.out.below).1
    have s0 := (ec _ 0 HG.out.1).trans HG.out.2.2.1
    have t0 := (ec _ 0 HG.out.2.1).trans HG.out.2.2.2.1
    have o0 := Hm.out.bk.cell 0
    have ol := Hm.out.bk.lt
    have hwe : w.heap.size < w1.heap.size := ol
    simp at o0
    have sc0 := (ec _ _ HR.out.1).trans (HR.out.2.2.1 0 _ rfl)
    have sc1 := (ec _ _ HR.out.1).trans (HR.out.2.2.1 1 _ rfl)
    have sc2 := (ec _ _ HR.out.1).trans (HR.out.2.2.1 2 _ rfl)
    have sc3 := (ec _ _ HR.out.1).trans (HR.out.2.2.1 3 _ rfl)
    have tc0 := (ec _ _ HR.out.2.1).trans (HR.out.2.2.2 0 _ rfl)
    have tc1 := (ec _ _ HR.out.2.1).trans (HR.out.2.2.2 1 _ rfl)
    have tc2 := (ec _ _ HR.out.2.1).trans (HR.out.2.2.2 2 _ rfl)
    have tc3 := (ec _ _ HR.out.2.1).trans (HR.out.2.2.2 3 _ rfl)
    rw [Nat.add_zero] at sc0 tc0
    clear ec
    cases v
    ·go_wp2_with fail
     obtain ⟨S, hS⟩ : ∃ S, MES w.heap.size g' sb (so + j * 4) (.slice oA n oc) (.slice (some ⟨sb, so, none⟩) M1 md) (.pointer q0) (.pointer q1) (.pointer q2) (.pointer q3) = S := ⟨_, rfl⟩
     have hS0 : S w1.drew := by rw [← hS]; exact ⟨o0, t0, tc0, tc1, tc2, tc3⟩
     refine wp_region_head 14 S (by rfl) (by kernel_rfl) ?_
     have hX := hide (show ∀ W : World, S W → MES w.heap.size g' sb (so + j * 4) (.slice oA n oc) (.slice (some ⟨sb, so, none⟩) M1 md) (.pointer q0) (.pointer q1) (.pointer q2) (.pointer q3) W from fun W hSw => by rw [← hS] at hSw; exact hSw)
     iterate 12
      refine HT.nx (v := ?_) rfl (by kernel_rfl) (fun _ _ _ h => h) (Or.inl ⟨by rfl, ?_⟩) ‹_› ?_
      rotate_left
      ·intro W hSw; obtain ⟨s0, s1, s2, s3, s4, s5⟩ := hX.out W hSw; go_simp; with_reducible rfl
      simp only [Act.put, zzA, zzZ, zzS]
     clear hX
     refine HT.one 12 rfl (by kernel_rfl) (by rfl) (fun K hK => ?_)
     go_simp
     have hbA : Below w1.heap.size w1 (w1.drew.alloc (.cells #[.pointer q0, .pointer q1, .pointer q2, .pointer q3] 109)) := (below_drew (Below.refl _ _)).alloc (Nat.le_refl _) _
     have hS1 : S (w1.drew.alloc (.cells #[.pointer q0, .pointer q1, .pointer q2, .pointer q3] 109)) := by
      rw [← hS] at hS0 ⊢
      exact hS0.to (fun k => (bcell hbA).1 _ _ (by omega)) (fun k => (bcell hbA).1 _ _ (by omega)) (fun k => (bcell hbA).1 _ _ (by omega))
     refine hK.out _ _ hS1 ?_
     clear hK K
     refine HT.one 13 rfl (by kernel_rfl) (by rfl) (fun K hK => ?_)
     have hmA := Hm.out.at_ (fun h k => h.keeps k) (fun h k => h.mono k) hbA
     refine wp_append_row _ (.tmp 63) (.tmp 71) 122 rfl (w.heap.size + 1) 109 i9 _ 4 32 Tryz.underlying122 hi9 hz9 hs9 hb9 rfl (by omega) (.slice oA n oc) n us rfl (by have q := hmA.own; rw [Hn.out] at q; exact q) (fun _ => True) (some ⟨w1.heap.size, 0, none⟩) 1 1 [.pointer q0, .pointer q1, .pointer q2, .pointer q3] rfl (Row.of_bkp (Bk.new w1.drew 109 ([.pointer q0, .pointer q1, .pointer q2, .pointer q3] : List Value).toArray) rfl trivial) (by simp [Value.oneCell']) (by omega) (by omega) (by show w.heap.size + 1 ≤ (w1.alloc (.cells #[.pointer q0, .pointer q1, .pointer q2, .pointer q3] 109)).heap.size; rw [World.size_alloc]; omega) ?_
     intro v' w3 hown3 hg3 hat3
     have hlo3 := hmA.own.lt
     have hstep := hmA.step HF.out (add := [b]) (fun h k => h.keeps k) (fun h k => h.mono k) (by rw [Hn.out]; exact hown3) hg3 hat3 (Cells.one ((Hxy.out.2.keeps (Keeps.below hmA.below HF.out)).mono (Apart.old HF.out hmA)) rfl)
     have hsz3 : w1.heap.size + 1 ≤ w3.heap.size := by have h1 : (w1.alloc (.cells #[.pointer q0, .pointer q1, .pointer q2, .pointer q3] 109)).heap.size ≤ w3.heap.size := hg3.size; rw [World.size_alloc] at h1; exact h1
     have hne : ∀ b, b ≤ w.heap.size → some b ≠ (Value.slice oA n oc).ownBlock := fun b hb e => by have := (hlo3 b e.symm).1; omega
     have hS3 : S w3 := by
      rw [← hS] at hS1 ⊢
      have hlt : ∀ b, b < w1.heap.size → b < (w1.drew.alloc (.cells #[.pointer q0, .pointer q1, .pointer q2, .pointer q3] 109)).heap.size := fun b hb => by rw [World.size_alloc]; show b < w1.heap.size + 1; omega
      exact hS1.to (fun k => (gcell hg3).1 _ _ (hlt _ (by omega)) (hne _ (by omega))) (fun k => (gcell hg3).1 _ _ (hlt _ (by omega)) (hne _ (by omega))) (fun k => (gcell hg3).1 _ _ (hlt _ (by omega)) (hne _ (by omega)))
     go_simp
     refine hK.out _ _ hS3 ?_
     clear hK K
     refine HT.done (by kernel_rfl) ?_
     simp only [List.drop_succ_cons, List.drop_zero]
     have hO3 : Bk w3 w.heap.size 124 #[.slice oA n oc] := hmA.bk.grown hg3 (hne _ (Nat.le_refl _))
     have z0 := hO3.cell 0
     have z1 := hO3.free 0
     simp at z0
     obtain ⟨nA, nc, rfl, _, _⟩ := own_form hown3
     have Hs := hide (And.intro hstep hsz3)
     clear hS0 hS1 hS3 hS hbA hmA hown3 hg3 hat3 hlo3 hstep hsz3 hne hO3
     clear o0 s0 t0 sc0 sc1 sc2 sc3 tc0 tc1 tc2 tc3
     go_upto_region 8 with fail
     have hbw4 := Hs.out.1.below
     generalize World.setCell w3 _ _ = w4 at *
     clear Hm z0 z1
     obtain ⟨Hm, Hn4⟩ : ∃ _ : Hid (Mg 4 124 109 PEAt F w (done ++ [b]) (.slice nA (n + 1) nc) w4 (us ++ [.pointer q0, .pointer q1, .pointer q2, .pointer q3])), True := ⟨hide Hs.out.1, trivial⟩
     clear Hs hbw4 Hn4
     have ec := (bcell Hm.out.below).1
     have s0 := (ec _ 0 HG.out.1).trans HG.out.2.2.1
     have t0 := (ec _ 0 HG.out.2.1).trans HG.out.2.2.2.1
     have o0 := Hm.out.bk.cell 0
     have ol := Hm.out.bk.lt
     have hwe : w.heap.size < w4.heap.size := ol
     simp at o0
     have sc0 := (ec _ _ HR.out.1).trans (HR.out.2.2.1 0 _ rfl)
     have sc1 := (ec _ _ HR.out.1).trans (HR.out.2.2.1 1 _ rfl)
     have sc2 := (ec _ _ HR.out.1).trans (HR.out.2.2.1 2 _ rfl)
     have sc3 := (ec _ _ HR.out.1).trans (HR.out.2.2.1 3 _ rfl)
     have tc0 := (ec _ _ HR.out.2.1).trans (HR.out.2.2.2 0 _ rfl)
     have tc1 := (ec _ _ HR.out.2.1).trans (HR.out.2.2.2 1 _ rfl)
     have tc2 := (ec _ _ HR.out.2.1).trans (HR.out.2.2.2 2 _ rfl)
     have tc3 := (ec _ _ HR.out.2.1).trans (HR.out.2.2.2 3 _ rfl)
     rw [Nat.add_zero] at sc0 tc0
     clear ec
     go_wp2_with fail
     go_still_tail 14, (by kernel_rfl)
     change wpList _ _ _ _ _ w4.drew
     go_wp2_with fail
     refine (HL2.out w4.drew (below_drew Hm.out.below)).mono ?_
     rintro en w5 ⟨rfl, hb5⟩
     have Hm5 := hide (Hm.out.at_ (fun h k => h.keeps k) (fun h k => h.mono k) (below_drew' hb5))
     clear hb5 o0 ol s0 t0 sc0 sc1 sc2 sc3 tc0 tc1 tc2 tc3 HL2 hwe
     cases v2
     ·go_wp2_with fail
      exact ⟨⟨i + 1, j + 1, done ++ [b], _, _, by go_num, by go_num, by rw [HM.out.1]; omega, by rw [HM.out.2]; omega, by rw [List.length_append, Hn.out]; show n + 1 ≤ _; omega, by rw [Heq.out, if_neg (by simpa using Hv.out.1), if_neg (by simpa using Hv.out.2)]; simp [SOp.el, SOp.un], Hm5.out⟩, by simp [intOf]; have := HM.out.1; have := HM.out.2; omega⟩
     ·go_wp2_with fail
      exact ⟨⟨i, j + 1, done ++ [b], _, _, by go_num, by go_num, by rw [HM.out.1]; omega, by rw [HM.out.2]; omega, by rw [List.length_append, Hn.out]; show n + 1 ≤ _; omega, by rw [Heq.out, if_neg (by simpa using Hv.out.1), if_pos (by simpa using Hv.out.2)]; simp [SOp.un], Hm5.out⟩, by simp [intOf]; have := HM.out.1; have := HM.out.2; omega⟩
    ·go_wp2_with fail
     obtain ⟨S, hS⟩ : ∃ S, MES w.heap.size g rb (ro + i * 4) (.slice oA n oc) (.slice (some ⟨rb, ro, none⟩) M mc) (.pointer p0) (.pointer p1) (.pointer p2) (.pointer p3) = S := ⟨_, rfl⟩
     have hS0 : S w1.drew := by rw [← hS]; exact ⟨o0, s0, sc0, sc1, sc2, sc3⟩
     refine wp_region_head 14 S (by rfl) (by kernel_rfl) ?_
     have hX := hide (show ∀ W : World, S W → MES w.heap.size g rb (ro + i * 4) (.slice oA n oc) (.slice (some ⟨rb, ro, none⟩) M mc) (.pointer p0) (.pointer p1) (.pointer p2) (.pointer p3) W from fun W hSw => by rw [← hS] at hSw; exact hSw)
     iterate 12
      refine HT.nx (v := ?_) rfl (by kernel_rfl) (fun _ _ _ h => h) (Or.inl ⟨by rfl, ?_⟩) ‹_› ?_
      rotate_left
      ·intro W hSw; obtain ⟨s0, s1, s2, s3, s4, s5⟩ := hX.out W hSw; go_simp; with_reducible rfl
      simp only [Act.put, zzA, zzZ, zzS]
     clear hX
     refine HT.one 12 rfl (by kernel_rfl) (by rfl) (fun K hK => ?_)
     go_simp
     have hbA : Below w1.heap.size w1 (w1.drew.alloc (.cells #[.pointer p0, .pointer p1, .pointer p2, .pointer p3] 109)) := (below_drew (Below.refl _ _)).alloc (Nat.le_refl _) _
     have hS1 : S (w1.drew.alloc (.cells #[.pointer p0, .pointer p1, .pointer p2, .pointer p3] 109)) := by
      rw [← hS] at hS0 ⊢
      exact hS0.to (fun k => (bcell hbA).1 _ _ (by omega)) (fun k => (bcell hbA).1 _ _ (by omega)) (fun k => (bcell hbA).1 _ _ (by omega))
     refine hK.out _ _ hS1 ?_
     clear hK K
     refine HT.one 13 rfl (by kernel_rfl) (by rfl) (fun K hK => ?_)
     have hmA := Hm.out.at_ (fun h k => h.keeps k) (fun h k => h.mono k) hbA
     refine wp_append_row _ (.tmp 45) (.tmp 53) 122 rfl (w.heap.size + 1) 109 i9 _ 4 32 Tryz.underlying122 hi9 hz9 hs9 hb9 rfl (by omega) (.slice oA n oc) n us rfl (by have q := hmA.own; rw [Hn.out] at q; exact q) (fun _ => True) (some ⟨w1.heap.size, 0, none⟩) 1 1 [.pointer p0, .pointer p1, .pointer p2, .pointer p3] rfl (Row.of_bkp (Bk.new w1.drew 109 ([.pointer p0, .pointer p1, .pointer p2, .pointer p3] : List Value).toArray) rfl trivial) (by simp [Value.oneCell']) (by omega) (by omega) (by show w.heap.size + 1 ≤ (w1.alloc (.cells #[.pointer p0, .pointer p1, .pointer p2, .pointer p3] 109)).heap.size; rw [World.size_alloc]; omega) ?_
     intro v' w3 hown3 hg3 hat3
     have hlo3 := hmA.own.lt
     have hstep := hmA.step HF.out (add := [a]) (fun h k => h.keeps k) (fun h k => h.mono k) (by rw [Hn.out]; exact hown3) hg3 hat3 (Cells.one ((Hxy.out.1.keeps (Keeps.below hmA.below HF.out)).mono (Apart.old HF.out hmA)) rfl)
     have hsz3 : w1.heap.size + 1 ≤ w3.heap.size := by have h1 : (w1.alloc (.cells #[.pointer p0, .pointer p1, .pointer p2, .pointer p3] 109)).heap.size ≤ w3.heap.size := hg3.size; rw [World.size_alloc] at h1; exact h1
     have hne : ∀ b, b ≤ w.heap.size → some b ≠ (Value.slice oA n oc).ownBlock := fun b hb e => by have := (hlo3 b e.symm).1; omega
     have hS3 : S w3 := by
      rw [← hS] at hS1 ⊢
      have hlt : ∀ b, b < w1.heap.size → b < (w1.drew.alloc (.cells #[.pointer p0, .pointer p1, .pointer p2, .pointer p3] 109)).heap.size := fun b hb => by rw [World.size_alloc]; show b < w1.heap.size + 1; omega
      exact hS1.to (fun k => (gcell hg3).1 _ _ (hlt _ (by omega)) (hne _ (by omega))) (fun k => (gcell hg3).1 _ _ (hlt _ (by omega)) (hne _ (by omega))) (fun k => (gcell hg3).1 _ _ (hlt _ (by omega)) (hne _ (by omega)))
     go_simp
     refine hK.out _ _ hS3 ?_
     clear hK K
     refine HT.done (by kernel_rfl) ?_
     simp only [List.drop_succ_cons, List.drop_zero]
     have hO3 : Bk w3 w.heap.size 124 #[.slice oA n oc] := hmA.bk.grown hg3 (hne _ (Nat.le_refl _))
     have z0 := hO3.cell 0
     have z1 := hO3.free 0
     simp at z0
     obtain ⟨nA, nc, rfl, _, _⟩ := own_form hown3
     have Hs := hide (And.intro hstep hsz3)
     clear hS0 hS1 hS3 hS hbA hmA hown3 hg3 hat3 hlo3 hstep hsz3 hne hO3
     clear o0 s0 t0 sc0 sc1 sc2 sc3 tc0 tc1 tc2 tc3
     go_wp2_with fail
     exact ⟨⟨i + 1, j, done ++ [a], _, _, by go_num, by go_num, by rw [HM.out.1]; omega, by rw [HM.out.2]; omega, by rw [List.length_append, Hn.out]; show n + 1 ≤ _; omega, by rw [Heq.out, if_pos (by simpa using Hv.out.1)]; simp [SOp.un], Hs.out.1⟩, by simp [intOf]; have := HM.out.1; have := HM.out.2; omega⟩
   ·have hkj1 : ¬ (j : Int) < (M1 : Int) := by omega
    have hki1 : (i : Int) < (M : Int) := by omega
    rw [mrg_end_r (show m'.length ≤ j by rw [HM.out.2]; omega)] at heq
    have Heq := hide heq
    clear heq ec
    have hcne : ¬ mc = i := by omega
    have hic : (i : Int) ≤ (mc : Int) := by omega
    obtain ⟨rb, ro, rfl, hF1, hc⟩ := HG.out.2.2.2.2.1.2 (by omega)
    have hdrop := HG.out.2.2.2.2.1.drop_at (m := i) (by omega)
    have Hd := hide (And.intro hdrop (HG.out.2.2.2.2.2.2.1.drop_ i))
    have Hd1 := hide (pe_cells_one (HG.out.2.2.2.2.2.2.1.drop_ i))
    clear hdrop hc hF1
    go_wp2_with fail
    obtain ⟨S, hS⟩ : ∃ S : World → Prop, (fun W => W.cell? ⟨w.heap.size, 0, none⟩ = some (.slice oA n oc) ∧ W.cell? ⟨g, 0, none⟩ = some (.slice (some ⟨rb, ro, none⟩) M mc)) = S := ⟨_, rfl⟩
    have hS0 : S wo.drew := by rw [← hS]; exact ⟨o0, s0⟩
    refine wp_region_head 12 S (by rfl) (by kernel_rfl) ?_
    have hX := hide (show ∀ W : World, S W → W.cell? ⟨w.heap.size, 0, none⟩ = some (.slice oA n oc) ∧ W.cell? ⟨g, 0, none⟩ = some (.slice (some ⟨rb, ro, none⟩) M mc) from fun W hSw => by rw [← hS] at hSw; exact hSw)
    iterate 11
     refine HT.nx (v := ?_) rfl (by kernel_rfl) (fun _ _ _ h => h) (Or.inl ⟨by rfl, ?_⟩) ‹_› ?_
     rotate_left
     ·intro W hSw; have hSw := hX.out W hSw; go_simp; with_reducible rfl
     simp only [Act.put, zzA, zzZ, zzS]
    clear hX
    refine HT.one 11 rfl (by kernel_rfl) (by rfl) (fun K hK => ?_)
    have hmA := Hm.out.at_ (V := wo.drew) (fun h k => h.keeps k) (fun h k => h.mono k) (below_drew (Below.refl _ _))
    refine wp_append_row _ (.tmp 106) (.tmp 112) 122 rfl (w.heap.size + 1) 109 i9 _ 4 32 Tryz.underlying122 hi9 hz9 hs9 hb9 rfl (by omega) (.slice oA n oc) n us rfl (by have q := hmA.own; rw [Hn.out] at q; exact q) F (some ⟨rb, ro + i * 4, none⟩) (M - i) (mc - i) (xs.drop (i * 4)) rfl (Hd.out.1.keeps (Keeps.below (below_drew Hm.out.below) HF.out)) Hd1.out (by omega) (by omega) (by show w.heap.size + 1 ≤ wo.heap.size; omega) ?_
    intro v' w3 hown3 hg3 hat3
    have hlo3 := hmA.own.lt
    have hstep := hmA.step HF.out (add := m.drop i) (fun h k => h.keeps k) (fun h k => h.mono k) (by rw [Hn.out, List.length_drop, HM.out.1]; exact hown3) hg3 hat3 (Hd.out.2.mono fun _ _ h => (h.keeps (Keeps.below hmA.below HF.out)).mono (Apart.old HF.out hmA))
    have hne : ∀ b, b ≤ w.heap.size → some b ≠ (Value.slice oA n oc).ownBlock := fun b hb e => by have := (hlo3 b e.symm).1; omega
    have hS3 : S w3 := by
     rw [← hS] at hS0 ⊢
     exact ⟨((gcell hg3).1 _ _ (by show _ < wo.heap.size; omega) (hne _ (by omega))).trans hS0.1, ((gcell hg3).1 _ _ (by show _ < wo.heap.size; omega) (hne _ (by omega))).trans hS0.2⟩
    go_simp
    refine hK.out _ _ hS3 ?_
    clear hK K
    refine HT.done (by kernel_rfl) ?_
    simp only [List.drop_succ_cons, List.drop_zero]
    have hO3 : Bk w3 w.heap.size 124 #[.slice oA n oc] := hmA.bk.grown hg3 (hne _ (Nat.le_refl _))
    have z0 := hO3.cell 0
    have z1 := hO3.free 0
    have hsz3 : wo.heap.size ≤ w3.heap.size := hg3.size
    simp at z0
    obtain ⟨nA, nc, rfl, _, _⟩ := own_form hown3
    have gz0 : w3.cell? ⟨g, 0, none⟩ = some (.slice (some ⟨rb, ro, none⟩) M mc) := ((gcell hg3).1 _ _ (by show _ < wo.heap.size; omega) (hne _ (by omega))).trans s0
    have gz1 : w3.cell? ⟨g', 0, none⟩ = some (.slice MB M1 md) := ((gcell hg3).1 _ _ (by show _ < wo.heap.size; omega) (hne _ (by omega))).trans t0
    have Hs := hide hstep
    clear hS0 hS3 hS hmA hown3 hg3 hat3 hlo3 hstep hne hO3 o0 s0 t0
    go_wp2
    go_ret
    exact ⟨rfl, _, _, by have e : R = done ++ m.drop i := (HRR.out.symm.trans Heq.out).trans (by simp [SOp.un]); rw [e]; exact Hs.out⟩
  ·have hki1 : ¬ (i : Int) < (M : Int) := by omega
   rw [mrg_end_l (show m.length ≤ i by rw [HM.out.1]; omega)] at heq
   by_cases hj1 : j < M1
   ·have hkj1 : (j : Int) < (M1 : Int) := by omega
    have Heq := hide heq
    clear heq ec
    have hcne : ¬ md = j := by omega
    have hic : (j : Int) ≤ (md : Int) := by omega
    obtain ⟨rb, ro, rfl, hF1, hc⟩ := HG.out.2.2.2.2.2.1.2 (by omega)
    have hdrop := HG.out.2.2.2.2.2.1.drop_at (m := j) (by omega)
    have Hd := hide (And.intro hdrop (HG.out.2.2.2.2.2.2.2.drop_ j))
    have Hd1 := hide (pe_cells_one (HG.out.2.2.2.2.2.2.2.drop_ j))
    clear hdrop hc hF1
    go_wp2_with fail
    obtain ⟨S, hS⟩ : ∃ S : World → Prop, (fun W => W.cell? ⟨w.heap.size, 0, none⟩ = some (.slice oA n oc) ∧ W.cell? ⟨g', 0, none⟩ = some (.slice (some ⟨rb, ro, none⟩) M1 md)) = S := ⟨_, rfl⟩
    have hS0 : S wo.drew := by rw [← hS]; exact ⟨o0, t0⟩
    refine wp_region_head 12 S (by rfl) (by kernel_rfl) ?_
    have hX := hide (show ∀ W : World, S W → W.cell? ⟨w.heap.size, 0, none⟩ = some (.slice oA n oc) ∧ W.cell? ⟨g', 0, none⟩ = some (.slice (some ⟨rb, ro, none⟩) M1 md) from fun W hSw => by rw [← hS] at hSw; exact hSw)
    iterate 11
     refine HT.nx (v := ?_) rfl (by kernel_rfl) (fun _ _ _ h => h) (Or.inl ⟨by rfl, ?_⟩) ‹_› ?_
     rotate_left
     ·intro W hSw; have hSw := hX.out W hSw; go_simp; with_reducible rfl
     simp only [Act.put, zzA, zzZ, zzS]
    clear hX
    refine HT.one 11 rfl (by kernel_rfl) (by rfl) (fun K hK => ?_)
    have hmA := Hm.out.at_ (V := wo.drew) (fun h k => h.keeps k) (fun h k => h.mono k) (below_drew (Below.refl _ _))
    refine wp_append_row _ (.tmp 127) (.tmp 133) 122 rfl (w.heap.size + 1) 109 i9 _ 4 32 Tryz.underlying122 hi9 hz9 hs9 hb9 rfl (by omega) (.slice oA n oc) n us rfl (by have q := hmA.own; rw [Hn.out] at q; exact q) F (some ⟨rb, ro + j * 4, none⟩) (M1 - j) (md - j) (ys.drop (j * 4)) rfl (Hd.out.1.keeps (Keeps.below (below_drew Hm.out.below) HF.out)) Hd1.out (by omega) (by omega) (by show w.heap.size + 1 ≤ wo.heap.size; omega) ?_
    intro v' w3 hown3 hg3 hat3
    have hlo3 := hmA.own.lt
    have hstep := hmA.step HF.out (add := m'.drop j) (fun h k => h.keeps k) (fun h k => h.mono k) (by rw [Hn.out, List.length_drop, HM.out.2]; exact hown3) hg3 hat3 (Hd.out.2.mono fun _ _ h => (h.keeps (Keeps.below hmA.below HF.out)).mono (Apart.old HF.out hmA))
    have hne : ∀ b, b ≤ w.heap.size → some b ≠ (Value.slice oA n oc).ownBlock := fun b hb e => by have := (hlo3 b e.symm).1; omega
    have hS3 : S w3 := by
     rw [← hS] at hS0 ⊢
     exact ⟨((gcell hg3).1 _ _ (by show _ < wo.heap.size; omega) (hne _ (by omega))).trans hS0.1, ((gcell hg3).1 _ _ (by show _ < wo.heap.size; omega) (hne _ (by omega))).trans hS0.2⟩
    go_simp
    refine hK.out _ _ hS3 ?_
    clear hK K
    refine HT.done (by kernel_rfl) ?_
    simp only [List.drop_succ_cons, List.drop_zero]
    have hO3 : Bk w3 w.heap.size 124 #[.slice oA n oc] := hmA.bk.grown hg3 (hne _ (Nat.le_refl _))
    have z0 := hO3.cell 0
    have z1 := hO3.free 0
    have hsz3 : wo.heap.size ≤ w3.heap.size := hg3.size
    simp at z0
    obtain ⟨nA, nc, rfl, _, _⟩ := own_form hown3
    have gz0 : w3.cell? ⟨g, 0, none⟩ = some (.slice MA M mc) := ((gcell hg3).1 _ _ (by show _ < wo.heap.size; omega) (hne _ (by omega))).trans s0
    have gz1 : w3.cell? ⟨g', 0, none⟩ = some (.slice (some ⟨rb, ro, none⟩) M1 md) := ((gcell hg3).1 _ _ (by show _ < wo.heap.size; omega) (hne _ (by omega))).trans t0
    have Hs := hide hstep
    clear hS0 hS3 hS hmA hown3 hg3 hat3 hlo3 hstep hne hO3 o0 s0 t0
    go_wp2
    go_ret
    exact ⟨rfl, _, _, by have e : R = done ++ m'.drop j := (HRR.out.symm.trans Heq.out).trans (by simp [SOp.un]); rw [e]; exact Hs.out⟩
   ·have hkj1 : ¬ (j : Int) < (M1 : Int) := by omega
    rw [List.drop_eq_nil_of_le (show m'.length ≤ j by rw [HM.out.2]; omega)] at heq
    have Heq := hide heq
    clear heq ec
    go_wp2
    go_ret
    exact ⟨rfl, _, _, by have e : R = done := (HRR.out.symm.trans Heq.out).trans (by simp [SOp.un]); rw [e]; exact Hm.out⟩

end Go.Proofs.YtbicoknghdgahaaGreat
