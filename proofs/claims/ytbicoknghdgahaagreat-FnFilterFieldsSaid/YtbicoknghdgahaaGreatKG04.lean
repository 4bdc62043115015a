/- Parts: MrgSU, Both, LawSetUnion. -/
import Derived.Test.YtbicoknghdgahaaGreatKE01
import Derived.Test.YtbicoknghdgahaaGreatKG02
import Derived.Test.YtbicoknghdgahaaGreatKG03
set_option linter.unusedVariables false
set_option linter.unusedSimpArgs false
namespace Go.Proofs.YtbicoknghdgahaaGreat
open Go.RowKit
attribute [local go_sem] run_store_float

set_option maxRecDepth 100000 in
set_option maxHeartbeats 4000000 in
theorem setUnion_calls : ∀ {n a b : Nat} {F : Nat → Prop} {w : World} {g g' : Nat} {s t : St}, (∀ b, F b → b < w.heap.size) → SetR F w g s → SetR F w g' t → s.Ht n → t.Ht n → s.Le a → t.Le b → (a + b) * 40 ≤ R47 →
  Calls Tryz.prog 82 #[.pointer (some ⟨g, 0, none⟩), .pointer (some ⟨g', 0, none⟩)] w (GivesF F (SOp.un.ap n s t) w)
 | 0, _, _, _, _, _, _, _, _, _, _, _, hn, _, _, _, _ => by cases hn
 | n + 1, a, b, F, w, g, g', .mk m ks, .mk m' ks', hF, hs, ht, hn, hn', hl, hl', h47 => by
  have h47' : (a + b) * 40 ≤ 140737488351232 := h47
  have hn1 : ∀ k ∈ ks, k.2.Ht n ∧ k.2.Le a := fun k hk => ⟨by cases hn with | mk h => exact h k hk, by cases hl with | mk h1 h2 h3 => exact h3 k hk⟩
  have hn2 : ∀ k ∈ ks', k.2.Ht n ∧ k.2.Le b := fun k hk => ⟨by cases hn' with | mk h => exact h k hk, by cases hl' with | mk h1 h2 h3 => exact h3 k hk⟩
  have hm : m.length ≤ a ∧ ks.length ≤ a := by cases hl with | mk h1 h2 h3 => exact ⟨h1, h2⟩
  have hm' : m'.length ≤ b ∧ ks'.length ≤ b := by cases hl' with | mk h1 h2 h3 => exact ⟨h1, h2⟩
  have IH : ∀ {F : Nat → Prop} {W : World} {ga gb : Nat} {s t : St}, (∀ b, F b → b < W.heap.size) → SetR F W ga s → SetR F W gb t → (s.Ht n ∧ s.Le a) → (t.Ht n ∧ t.Le b) → Calls Tryz.prog 82 #[.pointer (some ⟨ga, 0, none⟩), .pointer (some ⟨gb, 0, none⟩)] W (GivesF F (SOp.un.ap n s t) W) :=
   fun hF h1 h2 h3 h4 => setUnion_calls hF h1 h2 h3.1 h4.1 h3.2 h4.2 h47
  have hle := mrg_length (c := E.cmp) (kl := SOp.un.kl) (kr := SOp.un.kr) (f := SOp.un.el) (l := m) (m := m')
  have hlk := mrg_length (c := kcmp) (kl := SOp.un.kl) (kr := SOp.un.kr) (f := SOp.un.kid (SOp.un.ap n)) (l := ks) (m := ks')
  obtain ⟨MA, KA, mc, kc, xs, ys, a1, a2, a3, a4, a5, a6, a7, a8, a9, a10, a11, a12⟩ := hs.parts
  obtain ⟨MB, KB, md, kd, xs', ys', b1, b2, b3, b4, b5, b6, b7, b8, b9, b10, b11, b12⟩ := ht.parts
  simp only [St.mem, St.kids] at a2 a3 a4 a5 a7 a9 a10 a11 a12 b2 b3 b4 b5 b7 b9 b10 b11 b12
  have ga0 := a2.cell 0
  have ga1 := a2.cell 1
  have gb0 := b2.cell 0
  have gb1 := b2.cell 1
  simp at ga0 ga1 gb0 gb1
  have hg := hF _ a1
  have hg' := hF _ b1
  have hbd : Below w.heap.size w w.drew := below_drew (Below.refl _ _)
  have H1 := hide (esUnion_calls (F := F) (w := w.drew) (m := m) (m' := m') hF hg hg' ga0 gb0 a5 b5 a9 b9 (a11.mono fun _ _ h => h.keeps fun _ _ => rfl) (b11.mono fun _ _ h => h.keeps fun _ _ => rfl) (by unfold R47; omega))
  have H2 := hide fun (W : World) (hb : Below w.heap.size w W) => nmUnion_calls (F := F) (w := W) IH hn1 hn2 (fun b hb' => Nat.lt_of_lt_of_le (hF b hb') hb.size) (Nat.lt_of_lt_of_le hg hb.size) (Nat.lt_of_lt_of_le hg' hb.size) (((bcell hb).1 _ _ hg).trans ga1) (((bcell hb).1 _ _ hg').trans gb1) a7 b7
   (a10.keeps (Keeps.below hb hF)) (b10.keeps (Keeps.below hb hF)) (a12.mono fun _ _ h => KQ.keeps h (Keeps.below hb hF)) (b12.mono fun _ _ h => KQ.keeps h (Keeps.below hb hF)) (by unfold R47; omega)
  have HF := hide hF
  have HL := hide (And.intro hle (And.intro hlk (And.intro hm hm')))
  rw [show SOp.un.ap (n + 1) (.mk m ks) (.mk m' ks') = .mk (mrg E.cmp SOp.un.kl SOp.un.kr SOp.un.el m m') (mrg kcmp SOp.un.kl SOp.un.kr (SOp.un.kid (SOp.un.ap n)) ks ks') from rfl]
  clear hs ht hn hn' hl hl' IH hn1 hn2 a1 a2 a3 a4 a5 a6 a7 a8 a9 a10 a11 a12 b1 b2 b3 b4 b5 b6 b7 b8 b9 b10 b11 b12 ga0 ga1 gb0 gb1 hbd hF hm hm' hle hlk
  generalize mrg E.cmp SOp.un.kl SOp.un.kr SOp.un.el m m' = mm at *
  generalize mrg kcmp SOp.un.kl SOp.un.kr (SOp.un.kid (SOp.un.ap n)) ks ks' = kk at *
  go_enter Tryz.func82, Tryz.ntmps82
  go_wp2_with fail
  refine wp_region_head 19 (fun _ => True) (by rfl) (by kernel_rfl) ?_
  have hS0 : (fun _ : World => True) w.drew := trivial
  iterate 6
   refine HT.nx (v := ?_) rfl (by kernel_rfl) (fun _ _ _ h => h) (Or.inl ⟨by rfl, ?_⟩) ‹_› ?_
   rotate_left
   ·intro W hSw; go_simp; with_reducible rfl
   simp only [Act.put, zzA, zzZ, zzS]
  refine HT.take 9 (v := ?_) rfl (by kernel_rfl) (fun _ _ _ h => h) (Or.inl ⟨by rfl, ?_⟩) ‹_› ?_
  rotate_left
  ·intro W hSw; go_simp; with_reducible rfl
  simp only [Act.put, zzA, zzZ, zzS]
  refine HT.take 10 (v := ?_) rfl (by kernel_rfl) (fun _ _ _ h => h) (Or.inl ⟨by rfl, ?_⟩) ‹_› ?_
  rotate_left
  ·intro W hSw; go_simp; with_reducible rfl
  simp only [Act.put, zzA, zzZ, zzS]
  refine HT.take 11 (v := ?_) rfl (by kernel_rfl) (fun _ _ _ h => h) (Or.inl ⟨by rfl, ?_⟩) ‹_› ?_
  rotate_left
  ·intro W hSw; go_simp; with_reducible rfl
  simp only [Act.put, zzA, zzZ, zzS]
  refine HT.take 12 (v := ?_) rfl (by kernel_rfl) (fun _ _ _ h => h) (Or.inl ⟨by rfl, ?_⟩) ‹_› ?_
  rotate_left
  ·intro W hSw; go_simp; with_reducible rfl
  simp only [Act.put, zzA, zzZ, zzS]
  refine HT.take 13 (v := ?_) rfl (by kernel_rfl) (fun _ _ _ h => h) (Or.inl ⟨by rfl, ?_⟩) ‹_› ?_
  rotate_left
  ·intro W hSw; go_simp; with_reducible rfl
  simp only [Act.put, zzA, zzZ, zzS]
  refine HT.take 14 (v := ?_) rfl (by kernel_rfl) (fun _ _ _ h => h) (Or.inl ⟨by rfl, ?_⟩) ‹_› ?_
  rotate_left
  ·intro W hSw; go_simp; with_reducible rfl
  simp only [Act.put, zzA, zzZ, zzS]
  refine HT.one 6 rfl (by kernel_rfl) (by rfl) (fun K hK => ?_)
  go_simp
  refine H1.out.mono ?_
  rintro en w1 ⟨rfl, s1, us, hmg⟩
  obtain ⟨oA, oc, rfl, _, _⟩ := own_form hmg.own
  have hb1 : Below w.heap.size w w1 := below_drew' hmg.below
  have o0 := hmg.bk.cell 0
  have ol : w.heap.size < w1.heap.size := hmg.bk.lt
  simp at o0
  have Hm1 := hide hmg
  clear hmg H1
  go_simp
  refine hK.out _ _ trivial ?_
  clear hK K hS0
  obtain ⟨S, hS⟩ : ∃ S : World → Prop, (fun W => W.cell? ⟨w.heap.size, 0, none⟩ = some (.slice oA mm.length oc)) = S := ⟨_, rfl⟩
  have hS1 : S w1 := by rw [← hS]; exact o0
  refine HT.change (S2 := S) (fun _ _ => trivial) ?_
  have hX := hide (show ∀ W : World, S W → W.cell? ⟨w.heap.size, 0, none⟩ = some (.slice oA mm.length oc) from fun W hSw => by rw [← hS] at hSw; exact hSw)
  refine HT.take 7 (v := ?_) rfl (by kernel_rfl) (fun _ _ _ h => h) (Or.inl ⟨by rfl, ?_⟩) ‹_› ?_
  rotate_left
  ·intro W hSw; have hSw := hX.out W hSw; go_simp; with_reducible rfl
  simp only [Act.put, zzA, zzZ, zzS]
  refine HT.take 8 (v := ?_) rfl (by kernel_rfl) (fun _ _ _ h => h) (Or.inl ⟨by rfl, ?_⟩) ‹_› ?_
  rotate_left
  ·intro W hSw; have hSw := hX.out W hSw; go_simp; with_reducible rfl
  simp only [Act.put, zzA, zzZ, zzS]
  clear hX
  refine HT.one 15 rfl (by kernel_rfl) (by rfl) (fun K hK => ?_)
  go_simp
  refine (H2.out _ hb1).mono ?_
  rintro en w2 ⟨rfl, s2, us2, hmg2⟩
  obtain ⟨oB, od, rfl, _, _⟩ := own_form hmg2.own
  have hb2 := hmg2.below
  have z0 := hmg2.bk.cell 0
  have zl := hmg2.bk.lt
  simp at z0
  have hSw2 : S w2 := by rw [← hS] at hS1 ⊢; exact ((bcell hb2).1 _ _ ol).trans hS1
  have Hm2 := hide hmg2
  clear hmg2 H2
  go_simp
  refine hK.out _ _ hSw2 ?_
  clear hK K hS1 hS o0
  obtain ⟨S2, hS2⟩ : ∃ S2 : World → Prop, (fun W => S W ∧ W.cell? ⟨w1.heap.size, 0, none⟩ = some (.slice oB kk.length od)) = S2 := ⟨_, rfl⟩
  have hS3 : S2 w2 := by rw [← hS2]; exact ⟨hSw2, z0⟩
  refine HT.change (S2 := S2) (fun W h => by rw [← hS2] at h; exact h.1) ?_
  have hX := hide (show ∀ W : World, S2 W → S W ∧ W.cell? ⟨w1.heap.size, 0, none⟩ = some (.slice oB kk.length od) from fun W hSw => by rw [← hS2] at hSw; exact hSw)
  iterate 3
   refine HT.nx (v := ?_) rfl (by kernel_rfl) (fun _ _ _ h => h) (Or.inl ⟨by rfl, ?_⟩) ‹_› ?_
   rotate_left
   ·intro W hSw; have hSw := hX.out W hSw; go_simp; with_reducible rfl
   simp only [Act.put, zzA, zzZ, zzS]
  clear hX
  refine HT.done (by kernel_rfl) ?_
  simp only [List.drop_succ_cons, List.drop_zero]
  clear hS3 hS2 hSw2 z0
  have hw12 : w1.heap.size ≤ w2.heap.size := hb2.size
  have hbx : Below w2.heap.size w2 (w2.alloc (.cells #[.slice oA mm.length oc, .slice oB kk.length od] 130)) := (Below.refl _ _).alloc (Nat.le_refl _) _
  have hbox := Bk.new w2 130 #[.slice oA mm.length oc, .slice oB kk.length od]
  have hszx : (w2.alloc (.cells #[.slice oA mm.length oc, .slice oB kk.length od] 130)).heap.size = w2.heap.size + 1 := World.size_alloc _ _
  have hfin : SetR (fun b => F b ∨ Fr w.heap.size (w2.alloc (.cells #[.slice oA mm.length oc, .slice oB kk.length od] 130)) b) (w2.alloc (.cells #[.slice oA mm.length oc, .slice oB kk.length od] 130)) w2.heap.size (.mk mm kk) := by
   have q1 := own_form Hm1.out.own
   have q2 := own_form Hm2.out.own
   obtain ⟨_, _, e1, c1, c1'⟩ := q1
   obtain ⟨_, _, e2, c2, c2'⟩ := q2
   cases e1
   cases e2
   have k1 : Keeps (fun b => F b ∨ Fr w.heap.size w1 b) w1 (w2.alloc (.cells #[.slice oA mm.length oc, .slice oB kk.length od] 130)) := Keeps.below (hb2.trans (hbx.mono hb2.size)) fun b hb => by
    rcases hb with h1 | h1
    ·have := HF.out b h1; omega
    ·exact h1.2
   have k2 : Keeps (fun b => F b ∨ Fr w1.heap.size w2 b) w2 (w2.alloc (.cells #[.slice oA mm.length oc, .slice oB kk.length od] 130)) := Keeps.below hbx fun b hb => by
    rcases hb with h1 | h1
    ·have := HF.out b h1; omega
    ·exact h1.2
   have u1 : ∀ b, (F b ∨ Fr w.heap.size w1 b) → F b ∨ Fr w.heap.size (w2.alloc (.cells #[.slice oA mm.length oc, .slice oB kk.length od] 130)) b := fun b hb => hb.imp id fun h => ⟨h.1, by rw [hszx]; have := h.2; omega⟩
   have u2 : ∀ b, (F b ∨ Fr w1.heap.size w2 b) → F b ∨ Fr w.heap.size (w2.alloc (.cells #[.slice oA mm.length oc, .slice oB kk.length od] 130)) b := fun b hb => hb.imp id fun h => ⟨by have := h.1; omega, by rw [hszx]; have := h.2; omega⟩
   refine SetR.of_parts (.inr ⟨by omega, by rw [hszx]; omega⟩) hbox ?_ ?_ c1 c1' c2 c2' ((Hm1.out.row.keeps k1).mono u1) ((Hm2.out.row.keeps k2).mono u2) (Hm1.out.cells.mono fun _ _ h => ((h.mono fun b hb => hb.wide).keeps k1).mono u1) (Hm2.out.cells.mono fun _ _ h => KQ.mono (KQ.keeps (KQ.mono h fun b hb => hb.wide) k2) u2)
   ·have := HL.out.1; have h1 := HL.out.2.2.1; have h2 := HL.out.2.2.2; unfold R47; omega
   ·have := HL.out.2.1; have h1 := HL.out.2.2.1; have h2 := HL.out.2.2.2; unfold R47; omega
  have Hf := hide (And.intro hfin (hb1.trans ((hb2.trans (hbx.mono hb2.size)).mono hb1.size)))
  clear hfin hbx hbox hszx Hm1 Hm2 HL HF hb1 hb2
  go_wp2
  go_ret
  exact ⟨w2.heap.size, rfl, Hf.out.1, Hf.out.2⟩

set_option maxRecDepth 100000 in
set_option maxHeartbeats 4000000 in
theorem implSetUnion_calls {l m : List (List REl)} {A B : Option Addr} {c d N : Nat} {w : World} (h : PathsAt (Old w) w l A c) (h' : PathsAt (Old w) w m B d) (hl : ∀ p ∈ pels l, POk p) (hm : ∀ p ∈ pels m, POk p) (hn : l.length + m.length ≤ N38) (h1 : (setP (pels l)).Ht N) (h2 : (setP (pels m)).Ht N) (hN : N * 168 ≤ R47) :
  Calls Tryz.prog 30 #[.slice A l.length c, .slice B m.length d] w (GivesPaths ((apL SOp.un N (pels l) (pels m)).map (List.map E.toREl)) w) := by
 have hn' : l.length + m.length ≤ 274877906944 := hn
 have HT1 := hide (toSet_calls h hl (by unfold N38; omega))
 have HT2 := hide fun (W : World) (hb : Below w.heap.size w W) => toSet_calls (h'.at_ hb) hm (by unfold N38; omega)
 have hle1 : (setP (pels l)).Le l.length := by have := setP_le hl; rwa [show (pels l).length = l.length from List.length_map _] at this
 have hle2 : (setP (pels m)).Le m.length := by have := setP_le hm; rwa [show (pels m).length = m.length from List.length_map _] at this
 have hcount : (apL SOp.un N (pels l) (pels m)).length * 24 ≤ R47 := by
  have q1 := apL_count (o := SOp.un) (n := N) (a := pels l) (b := pels m)
  rw [show (pels l).length = l.length from List.length_map _, show (pels m).length = m.length from List.length_map _] at q1
  unfold R47
  omega
 have Hx := hide (And.intro h1 (And.intro h2 (And.intro hle1 (And.intro hle2 (And.intro hcount (And.intro (ap_ht (o := SOp.un) (n := N) h1 h2) hN))))))
 have Hb40 := hide (show (l.length + m.length) * 40 ≤ R47 by unfold R47; omega)
 clear h h' hl hm hn h1 h2 hN hle1 hle2 hcount hn'
 unfold apL at *
 generalize setP (pels l) = s at *
 generalize setP (pels m) = t at *
 generalize l.length = k1 at *
 generalize m.length = k2 at *
 go_enter Tryz.func30, Tryz.ntmps30
 go_wp2_with fail
 refine HT1.out.mono ?_
 intro e w1 hg
 obtain ⟨rfl, hr, hb⟩ := hg.read
 have Hr := hide (And.intro hr hb)
 clear hr hb hg HT1
 go_wp2_with fail
 refine (HT2.out w1 Hr.out.2).mono ?_
 intro e w2 hg
 obtain ⟨rfl, hr2, hb2⟩ := hg.read
 have HU := hide (setUnion_calls (F := Old w2) (w := w2) (fun b hb => hb) ((Hr.out.1.mono fun b hb => hb.2 : SetR (Old w1) w1 _ s).at_ hb2) (hr2.mono fun b hb => hb.2) Hx.out.1 Hx.out.2.1 Hx.out.2.2.1 Hx.out.2.2.2.1 Hb40.out)
 have Hb := hide (Hr.out.2.trans (hb2.mono Hr.out.2.size))
 clear hr2 hb2 hg Hr HT2
 go_wp2_with fail
 refine HU.out.mono ?_
 rintro e w3 ⟨g3, rfl, hs3, hb3⟩
 have hs3' : SetR (Old w3) w3 g3 (SOp.un.ap N s t) := hs3.mono fun b hb => by
  rcases hb with h1 | h1
  ·have h1 : b < w2.heap.size := h1; have := hb3.size; show b < w3.heap.size; omega
  ·exact h1.2
 have HF := hide (fromSet_calls hs3' Hx.out.2.2.2.2.2.1 Hx.out.2.2.2.2.2.2 Hx.out.2.2.2.2.1)
 have Hb3 := hide (Hb.out.trans (hb3.mono Hb.out.size))
 clear hs3 hs3' hb3 HU Hb Hx
 generalize (SOp.un.ap N s t).paths.map (List.map E.toREl) = rs at *
 go_wp2_with fail
 refine HF.out.mono ?_
 rintro e w4 ⟨B4, d4, rfl, hp, hb4⟩
 have Hf := hide (And.intro (hp.mono fun b hb => ⟨Nat.le_trans Hb3.out.size hb.1, hb.2⟩ : PathsAt (Fr w.heap.size w4) w4 rs B4 d4) (Hb3.out.trans (hb4.mono Hb3.out.size)))
 clear hp hb4
 go_wp2
 go_ret
 exact ⟨B4, d4, rfl, Hf.out.1, Hf.out.2⟩

end Go.Proofs.YtbicoknghdgahaaGreat

namespace Go.Proofs.YtbicoknghdgahaaGreat
open Go.RowKit
attribute [local go_sem] run_store_float

def GivesP (rs : List (List REl)) (w : World) (en : Ending) (w' : World) : Prop := ∃ A c, en = .returned (.slice A rs.length c) ∧ PathsAt (Old w') w' rs A c ∧ Below w.heap.size w w'
set_option maxRecDepth 100000 in
set_option maxHeartbeats 4000000 in
theorem both_calls {l m : List (List REl)} {A B : Option Addr} {c d : Nat} {w : World} (h : PathsAt (Old w) w l A c) (h' : PathsAt (Old w) w m B d) (hn : (l.length + m.length) * 24 ≤ R47) :
  Calls Tryz.prog 29 #[.slice A l.length c, .slice B m.length d] w (GivesP (l ++ m) w) := by
 obtain ⟨h1, h2, h3, xs, h4, h5⟩ := h
 obtain ⟨k1, k2, k3, ys, k4, k5⟩ := h'
 have hn' : (l.length + m.length) * 24 ≤ 140737488351232 := hn
 obtain ⟨i9, hi9, hz9, hs9, hb9⟩ := info_parts paths_info
 have hb0 : Below w.heap.size w (w.alloc (.cells #[] 22)) := (Below.refl _ _).alloc (Nat.le_refl _) _
 have hown0 := World.ownsRow_lit (base := w.heap.size) (e := 22) (size := 1) w #[] 0 (by simp) (by simp [maxLen]) (by simp)
 have k0 : Keeps (Old w) w (w.alloc (.cells #[] 22)) := Keeps.below hb0 fun _ h => h
 have H0 := hide (And.intro hb0 (And.intro hown0 (And.intro (h4.keeps k0) (And.intro (h5.mono fun _ _ h => PQ.keeps h k0) (And.intro k4 k5)))))
 have Ho := hide (And.intro (pq_ones h5) (pq_ones k5))
 clear hb0 hown0 k0 h1 h2 h3 h4 h5 k1 k2 k3 k4 k5
 obtain ⟨n, hn0⟩ : ∃ n, l.length = n := ⟨_, rfl⟩
 obtain ⟨n', hn1⟩ : ∃ n, m.length = n := ⟨_, rfl⟩
 have Hn := hide (And.intro hn0 hn1)
 rw [hn0] at H0
 rw [hn1] at H0
 rw [hn0, hn1] at hn' ⊢
 clear hn0 hn1 hn
 go_enter Tryz.func29, Tryz.ntmps29
 go_wp2_with (at_builtin; go_loud (refine wpList_append_row _ rfl (.tmp 5) (.tmp 6) 36 rfl w.heap.size 22 i9 _ 1 24 Tryz.underlying36 hi9 hz9 hs9 hb9 rfl (by omega) (.slice (some ⟨w.heap.size, 0, none⟩) 0 0) 0 [] rfl H0.out.2.1 (Old w) A n c xs rfl H0.out.2.2.1 Ho.out.1 (by omega) (by omega) (by rw [World.size_alloc]; omega) ?_))
 intro v2 w2 hown2 hg2 hat2
 have hlo1 : ∀ b, (Value.slice (some ⟨w.heap.size, 0, none⟩) 0 0).ownBlock = some b → w.heap.size ≤ b := fun b hb => by
  have e1 : w.heap.size = b := Option.some.inj hb
  omega
 have hst := old_step (ls := ([] : List (List REl))) (us := []) (Q := PQ) (fun h k => h.keeps k) Cells.nil_ H0.out.1 hlo1 hg2 H0.out.2.2.2.1
 rw [List.nil_append] at hst
 have hkw : Keeps (Old w) w w2 := Keeps.below hst.2 fun _ h => h
 have hrow2 := H0.out.2.2.2.2.1.keeps hkw
 have hcel2 := H0.out.2.2.2.2.2.mono fun _ _ h => PQ.keeps h hkw
 have hlo2 := hown2.lt
 obtain ⟨oA, oc, rfl, _, _⟩ := own_form hown2
 have Hst := hide (And.intro hst (And.intro hown2 (And.intro hrow2 hcel2)))
 have Hlo := hide hlo2
 have hw2 := hst.2.size
 clear hst hg2 hat2 hlo1 hkw hrow2 hcel2 hlo2 hown2 H0
 go_wp2_with (at_builtin; go_loud (refine wpList_append_row _ rfl (.tmp 7) (.tmp 8) 36 rfl w.heap.size 22 i9 _ 1 24 Tryz.underlying36 hi9 hz9 hs9 hb9 rfl (by omega) _ n _ rfl Hst.out.2.1 (Old w) B n' d ys rfl Hst.out.2.2.1 Ho.out.2 (by omega) (by omega) (by omega) ?_))
 intro v3 w3 hown3 hg3 hat3
 have hst3 := old_step (Q := PQ) (fun h k => h.keeps k) Hst.out.1.1 Hst.out.1.2 (fun b hb => (Hlo.out b hb).1) hg3 Hst.out.2.2.2
 obtain ⟨nA, nc, rfl, q1, q2⟩ := own_form hown3
 have hlen : (l ++ m).length = n + n' := by rw [List.length_append, Hn.out.1, Hn.out.2]
 have hfin : PathsAt (Old w3) w3 (l ++ m) nA nc := ⟨by rw [hlen]; unfold R47; omega, by rw [hlen]; exact q1, q2, _, by rw [hlen]; exact Row.of_own hown3 fun b hb => (hown3.lt b hb).2, hst3.1.mono fun _ _ h => PQ.mono h fun b hb => Nat.lt_of_lt_of_le hb hst3.2.size⟩
 have Hf := hide (And.intro hfin hst3.2)
 have Hl := hide hlen
 clear hown3 hg3 hat3 hst3 hfin hlen Hst q1 q2
 go_wp2
 go_ret
 exact ⟨nA, nc, by rw [Hl.out]; rfl, Hf.out.1, Hf.out.2⟩

end Go.Proofs.YtbicoknghdgahaaGreat

namespace Go.Proofs.YtbicoknghdgahaaGreat
open Go.RowKit
attribute [local go_sem] run_store_float

theorem ht_any {ls : List (List REl)} {F : Nat → Prop} {A : Option Addr} {c : Nat} {w : World} (h : PathsAt F w ls A c) {N : Nat} (hN : N = 837723144946 + 1) : (setP (pels ls)).Ht N := by
 subst hN
 exact setP_ht47 h
theorem ht_some : ∃ N : Nat, N = 837723144946 + 1 ∧ N * 168 ≤ R47 := ⟨_, rfl, by unfold R47; omega⟩
end Go.Proofs.YtbicoknghdgahaaGreat
