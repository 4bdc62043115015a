/- Parts: Iter2, MakeSet, Pels, PathOk, AlgP, MgM, AlgQ. -/
import Derived.Test.YtbicoknghdgahaaGreatKB15
set_option linter.unusedVariables false
set_option linter.unusedSimpArgs false
namespace Go.Proofs.YtbicoknghdgahaaGreat
open Go.RowKit
attribute [local go_sem] run_store_float

theorem pathsK_snoc (ks : List (E × St)) (k : E × St) : St.pathsK (ks ++ [k]) = St.pathsK ks ++ k.2.paths.map (k.1 :: ·) := by
 induction ks with
 | nil => obtain ⟨e, s⟩ := k; simp [St.pathsK]
 | cons a ks ih => obtain ⟨e, s⟩ := a; rw [List.cons_append, St.pathsK, ih, St.pathsK, List.append_assoc]
theorem pathsK_part (ks : List (E × St)) {i : Nat} {k : E × St} (hk : ks[i]? = some k) : (St.pathsK (ks.take i)).length + k.2.paths.length ≤ (St.pathsK ks).length := by
 induction ks generalizing i with
 | nil => simp at hk
 | cons a ks ih =>
  obtain ⟨e, s⟩ := a
  cases i with
  | zero =>
   simp at hk
   subst hk
   simp [St.pathsK]
  | succ i =>
   have := ih (i := i) (by simpa using hk)
   rw [List.take_succ_cons, St.pathsK, St.pathsK, List.length_append, List.length_append]
   omega

structure IterOK (fid : FuncId) (cap : Array Value) (J : List (List E) → (Nat → Prop) → World → Prop) (B N M : Nat) (s : St) : Prop where
 run : ∀ {w : World} {g h : Nat} {pre : List E} {us : List Value} {pv : Value} {vis : List (List E)} {K G : Nat → Prop}, SetR G w g s → (∀ b, G b → b < w.heap.size ∧ ¬ K b ∧ pv.ownBlock ≠ some b) → J vis K w → w.ownsRow B 109 4 pv pre.length us → Cells 4 (PEAt G w) pre us → (∀ b, pv.ownBlock = some b → ¬ K b) →
  s.Ht h → pre.length + h ≤ N → vis.length + s.paths.length ≤ M →
  Calls Tryz.prog 185 #[.pointer (some ⟨g, 0, none⟩), pv, .func (.func fid) #[] cap] w (IterPost J B w vis K pv pre.length us (s.paths.map (pre ++ ·)))

def KLInv (J : List (List E) → (Nat → Prop) → World → Prop) (B : Nat) (w : World) (vis : List (List E)) (K : Nat → Prop) (pv : Value) (pre : List E) (us : List Value) (ks : List (E × St)) (s : Value) (W : World) : Prop :=
 ∃ (k : Nat) (K' : Nat → Prop), s = .int .i64 (k : Int) ∧ k ≤ ks.length ∧ J (vis ++ (St.pathsK (ks.take k)).map (pre ++ ·)) K' W ∧ (∀ b, K' b → K b ∨ w.heap.size ≤ b) ∧ Work (fun b => K b ∨ pv.ownBlock = some b) w W ∧ W.ownsRow B 109 4 pv pre.length us

def KLS (a h : Nat) (u c0 c1 c2 c3 : Value) (W : World) : Prop := W.cell? ⟨a, 4, none⟩ = some u ∧ W.cell? ⟨h, 0, none⟩ = some c0 ∧ W.cell? ⟨h, 1, none⟩ = some c1 ∧ W.cell? ⟨h, 2, none⟩ = some c2 ∧ W.cell? ⟨h, 3, none⟩ = some c3

set_option maxRecDepth 100000 in
set_option maxHeartbeats 4000000 in
theorem iterKids {fid : FuncId} {cap : Array Value} {J : List (List E) → (Nat → Prop) → World → Prop} {B N M : Nat} (C : Clos fid cap J B N M) (hN : N * 168 ≤ R47) {ks : List (E × St)} (ih : ∀ k ∈ ks, IterOK fid cap J B N M k.2)
  {w : World} {g h : Nat} {KA : Option Addr} {kc : Nat} {ys : List Value} {Gs : Nat → Nat} {pre : List E} {us : List Value} {pv : Value} {vis : List (List E)} {K G : Nat → Prop} (m0 : w.cell? ⟨g, 1, none⟩ = some (.slice KA ks.length kc)) (hgl : g < w.heap.size) (hk47 : ks.length * 40 ≤ R47) (hrow : Row G w 5 KA ks.length ys)
  (hkid : ∀ (i : Nat) k, ks[i]? = some k → KidAt G w k.1 (Gs i) ((ys.drop (i * 5)).take 5)) (hset : ∀ (i : Nat) k, ks[i]? = some k → SetR G w (Gs i) k.2)
  (hG : ∀ b, G b → b < w.heap.size ∧ ¬ K b ∧ pv.ownBlock ≠ some b) (hJ : J vis K w) (hown : w.ownsRow B 109 4 pv pre.length us) (hus : Cells 4 (PEAt G w) pre us) (hpb : ∀ b, pv.ownBlock = some b → ¬ K b)
  (hht : ∀ k ∈ ks, k.2.Ht h) (hn : ks ≠ [] → pre.length + 1 + h ≤ N) (hM : vis.length + (St.pathsK ks).length ≤ M) :
  Calls Tryz.prog 215 #[.pointer (some ⟨g, 1, none⟩), pv, .func (.func fid) #[] cap] w (IterPost J B w vis K pv pre.length us ((St.pathsK ks).map (pre ++ ·))) := by
 have hk47' : ks.length * 40 ≤ 140737488351232 := hk47
 obtain ⟨i9, hi9, hz9, hs9, hb9⟩ := info_parts pe_info
 obtain ⟨PA, pc, rfl, _, _⟩ := own_form hown
 have hpl := hown.lt
 have hKl := C.lt hJ
 have hBw := C.base hJ
 have H0 := hide (And.intro hrow (And.intro hkid (And.intro hset (And.intro hG (And.intro hJ (And.intro hown (And.intro hus (And.intro hpb (And.intro hht (And.intro hpl hKl))))))))))
 have Hih := hide ih
 have Hn := hide (And.intro hn hM)
 clear hrow hkid hset hG hJ hown hus hpb hht hpl hKl ih hk47 hn hM
 go_enter Tryz.func215, Tryz.ntmps215
 go_wp2_with fail
 go_loopw [14] (fun s W => KLInv J B w vis K (.slice PA pre.length pc) pre us ks s W) (fun s _ => ks.length - (intOf s).toNat)
 case atStart => exact ⟨0, K, rfl, Nat.zero_le _, by simpa [St.pathsK] using H0.out.2.2.2.2.1, fun b hb => .inl hb, Work.refl _ _, H0.out.2.2.2.2.2.1⟩
 case round =>
  obtain ⟨k, K1, rfl, hk, hJ, hK1, hw, hown⟩ := hrel
  by_cases hlt : k < ks.length
  ·have hki0 : (0 : Int) ≤ (k : Int) := Int.natCast_nonneg _
   have hki1 : (k : Int) < (ks.length : Int) := by omega
   have hlk : ks[k]? = some ks[k] := List.getElem?_eq_getElem hlt
   have hsn : St.pathsK (ks.take (k + 1)) = St.pathsK (ks.take k) ++ (ks[k]).2.paths.map ((ks[k]).1 :: ·) := by rw [List.take_succ_eq_append_getElem hlt, pathsK_snoc]
   have hpart := pathsK_part ks hlk
   have hkid := H0.out.2.1 k _ hlk
   have hset := H0.out.2.2.1 k _ hlk
   have hih := Hih.out ks[k] (List.getElem_mem hlt)
   have hht := H0.out.2.2.2.2.2.2.2.2.1 ks[k] (List.getElem_mem hlt)
   generalize ks[k] = kd at *
   obtain ⟨e, t⟩ := kd
   simp only at hkid hset hih hht hsn hpart
   generalize hcs : (ys.drop (k * 5)).take 5 = fcs at hkid
   obtain ⟨q0, q1, q2, q3, rfl, hpe⟩ := hkid
   obtain ⟨c0, c1, c2, c3, ee⟩ := hpe.form
   cases ee
   obtain ⟨rb, ro, rfl, hFr, hc⟩ := rown_at H0.out.1 hlt hcs
   have hkG : Keeps G w wr := hw.keeps fun b hb => ⟨(H0.out.2.2.2.1 b hb).1, fun h => h.elim (H0.out.2.2.2.1 b hb).2.1 (H0.out.2.2.2.1 b hb).2.2⟩
   have er : ∀ o v, w.cell? ⟨rb, o, none⟩ = some v → wr.cell? ⟨rb, o, none⟩ = some v := fun o v h => (World.cell?_of_block (hkG rb hFr)).trans h
   have r0 := er _ _ (hc 0 _ rfl)
   have r1 := er _ _ (hc 1 _ rfl)
   have r2 := er _ _ (hc 2 _ rfl)
   have r3 := er _ _ (hc 3 _ rfl)
   have r4 := er _ _ (hc 4 _ rfl)
   rw [Nat.add_zero] at r0
   have hrbl : rb < w.heap.size := (H0.out.2.2.2.1 rb hFr).1
   have hnk : ks ≠ [] := by intro e; rw [e] at hlt; simp at hlt
   have hn2 := Hn.out.1 hnk
   have hN2 : (pre.length + 1) * 168 ≤ 140737488351232 := Nat.le_trans (Nat.mul_le_mul_right _ (by omega)) hN
   have hws := hw.size
   have hBr := C.base hJ
   have Hq := hide (And.intro hJ (And.intro hK1 (And.intro hw (And.intro hown (And.intro hsn (And.intro hpart (And.intro hset (And.intro hih (And.intro hht (And.intro hpe hkG))))))))))
   clear hJ hK1 hw hown hsn hpart hset hih hht hpe hkG hcs hc er hFr hlk hnk
   obtain ⟨wo, hwo⟩ : ∃ W, W = wr := ⟨_, rfl⟩
   subst hwo
   go_upto_region 4 with fail
   have hbA : Below wo.heap.size wo ((wo.alloc (.cells #[.pointer c0, .pointer c1, .pointer c2, .pointer c3, .pointer (some ⟨Gs k, 0, none⟩)] 214)).alloc (.cells #[.pointer c0, .pointer c1, .pointer c2, .pointer c3] 109)) := below_two wo _ _
   have hX := (Bk.new wo 214 #[.pointer c0, .pointer c1, .pointer c2, .pointer c3, .pointer (some ⟨Gs k, 0, none⟩)]).alloc (.cells #[.pointer c0, .pointer c1, .pointer c2, .pointer c3] 109)
   have hY := Bk.new (wo.alloc (.cells #[.pointer c0, .pointer c1, .pointer c2, .pointer c3, .pointer (some ⟨Gs k, 0, none⟩)] 214)) 109 #[.pointer c0, .pointer c1, .pointer c2, .pointer c3]
   rw [World.size_alloc] at hY
   clear r0 r1 r2 r3 r4
   generalize hw1 : World.alloc (World.alloc wo _) _ = w1 at hbA hX hY ⊢
   have hsz1 : w1.heap.size = wo.heap.size + 2 := by rw [← hw1, World.size_alloc, World.size_alloc]
   have x4 := hX.cell 4
   have y0 := hY.cell 0
   have y1 := hY.cell 1
   have y2 := hY.cell 2
   have y3 := hY.cell 3
   simp at x4 y0 y1 y2 y3
   obtain ⟨S, hS⟩ : ∃ S, KLS wo.heap.size (wo.heap.size + 1) (.pointer (some ⟨Gs k, 0, none⟩)) (.pointer c0) (.pointer c1) (.pointer c2) (.pointer c3) = S := ⟨_, rfl⟩
   have hS0 : S w1.drew := by rw [← hS]; exact ⟨x4, y0, y1, y2, y3⟩
   have hS1 : S (w1.alloc (.cells #[.pointer c0, .pointer c1, .pointer c2, .pointer c3] 109)).drew := by
    have ed := (bcell (below_drew ((Below.refl w1.heap.size w1).alloc (Nat.le_refl _) (.cells #[.pointer c0, .pointer c1, .pointer c2, .pointer c3] 109)))).1
    rw [← hS]
    exact ⟨(ed _ _ (by omega)).trans x4, (ed _ _ (by omega)).trans y0, (ed _ _ (by omega)).trans y1, (ed _ _ (by omega)).trans y2, (ed _ _ (by omega)).trans y3⟩
   have H1 := hide (And.intro hbA hS1)
   clear hw1 hbA hX hY x4 y0 y1 y2 y3 hS1
   refine wp_region_head 7 S (by rfl) (by kernel_rfl) ?_
   have hX := hide (show ∀ W : World, S W → KLS wo.heap.size (wo.heap.size + 1) (.pointer (some ⟨Gs k, 0, none⟩)) (.pointer c0) (.pointer c1) (.pointer c2) (.pointer c3) W from fun W hSw => by rw [← hS] at hSw; exact hSw)
   iterate 4
    refine HT.nx (v := ?_) rfl (by kernel_rfl) (fun _ _ _ h => h) (Or.inl ⟨by rfl, ?_⟩) ‹_› ?_
    rotate_left
    ·intro W hSw; obtain ⟨s0, s1, s2, s3, s4⟩ := hX.out W hSw; go_simp; with_reducible rfl
    simp only [Act.put, zzA, zzZ, zzS]
   refine HT.take 6 (v := ?_) rfl (by kernel_rfl) (fun _ _ _ h => h) (Or.inl ⟨by rfl, ?_⟩) ‹_› ?_
   rotate_left
   ·intro W hSw; obtain ⟨s0, s1, s2, s3, s4⟩ := hX.out W hSw; go_simp; with_reducible rfl
   simp only [Act.put, zzA, zzZ, zzS]
   clear hX
   refine HT.one 4 rfl (by kernel_rfl) (by rfl) (fun K hK => ?_)
   go_simp
   refine hK.out _ _ H1.out.2 ?_
   clear hK K
   refine HT.one 5 rfl (by kernel_rfl) (by rfl) (fun K hK => ?_)
   have hb3 : Below wo.heap.size wo (w1.alloc (.cells #[.pointer c0, .pointer c1, .pointer c2, .pointer c3] 109)).drew := below_drew (H1.out.1.alloc (by omega) _)
   refine wp_append_keep (.tmp 22) (.tmp 24) 133 rfl B 109 i9 _ 4 32 Tryz.underlying133 hi9 hz9 hs9 hb9 rfl (by omega) _ pre.length us rfl (ownsRow_below Hq.out.2.2.2.1 hb3 (Nat.le_refl _)) ⟨wo.heap.size + 2, 0, none⟩ 1 1 [.pointer c0, .pointer c1, .pointer c2, .pointer c3] (by omega) rfl rfl (fun j u h => cells_at w1 [.pointer c0, .pointer c1, .pointer c2, .pointer c3] 109 (wo.heap.size + 2) hsz1 j u h) (by simp [Value.oneCell']) (by unfold maxLen; omega) (by omega) (by show B ≤ (w1.alloc _).heap.size; rw [World.size_alloc]; omega) ?_
   intro v' w3 hown3 hg3 hat3 hkeep3
   obtain ⟨nA, nc, rfl, hnc1, hnc2⟩ := own_form hown3
   have hs3 : w1.heap.size + 1 ≤ w3.heap.size := by have : (w1.alloc _).heap.size ≤ w3.heap.size := hg3.size; rw [World.size_alloc] at this; exact this
   have hpbw : ∀ b, (Value.slice PA pre.length pc).ownBlock = some b → B ≤ b ∧ b < w.heap.size ∧ ¬ K1 b := fun b hb => by
    have h1 := H0.out.2.2.2.2.2.2.2.2.2.1 b hb
    refine ⟨h1.1, h1.2, fun h2 => ?_⟩
    rcases Hq.out.2.1 b h2 with h3 | h3
    ·exact H0.out.2.2.2.2.2.2.2.1 b hb h3
    ·omega
   have hV3 : Work (fun b => (Value.slice PA pre.length pc).ownBlock = some b) wo w3 :=
    ⟨hg3.os.trans hb3.os, hg3.tape.trans hb3.tape, hg3.output.trans hb3.output, by omega, fun b hb hn => by rw [hg3.block b (by show b < (w1.alloc _).heap.size; rw [World.size_alloc]; omega) (fun e => hn e.symm)]; exact hb3.block b hb⟩
   have hS3 : S w3 := by
    have hs := H1.out.2
    rw [← hS] at hs ⊢
    obtain ⟨s0, s1, s2, s3, s4⟩ := hs
    have eg := (gcell hg3).1
    have hne : ∀ x, w.heap.size ≤ x → some x ≠ (Value.slice PA pre.length pc).ownBlock := fun x hx e => by have := (hpbw x e.symm).2.1; omega
    have hsz3 : (w1.alloc (.cells #[.pointer c0, .pointer c1, .pointer c2, .pointer c3] 109)).drew.heap.size = w1.heap.size + 1 := by show (w1.alloc _).heap.size = _; rw [World.size_alloc]
    exact ⟨(eg _ _ (by omega) (hne _ (by omega))).trans s0, (eg _ _ (by omega) (hne _ (by omega))).trans s1, (eg _ _ (by omega) (hne _ (by omega))).trans s2, (eg _ _ (by omega) (hne _ (by omega))).trans s3, (eg _ _ (by omega) (hne _ (by omega))).trans s4⟩
   go_simp
   refine hK.out _ _ hS3 ?_
   clear hK K
   refine HT.done (by kernel_rfl) ?_
   simp only [List.drop_succ_cons, List.drop_zero]
   have hl1 : (pre ++ [e]).length = pre.length + 1 := by simp
   have hK1l := C.lt Hq.out.1
   have hJ3 := C.keep (W' := w3) Hq.out.1 ⟨hV3.os, hV3.tape, hV3.output, hV3.size, fun b hb hn => hV3.frame b hb fun e => hn ⟨(hpbw b e).2.2, (hpbw b e).1⟩⟩
   have hvo : ∀ b, (Value.slice nA (pre.length + 1) nc).ownBlock = some b → (Value.slice PA pre.length pc).ownBlock = some b ∨ wo.heap.size ≤ b := fun b hb => by
    have hat3' : (Value.slice nA (pre.length + 1) nc).ownBlock = (Value.slice PA pre.length pc).ownBlock ∨ (Value.slice nA (pre.length + 1) nc).ownBlock = some (w1.alloc (.cells #[.pointer c0, .pointer c1, .pointer c2, .pointer c3] 109)).drew.heap.size := hat3
    rcases hat3' with e1 | e1
    ·exact .inl (e1.symm.trans hb)
    ·have e2 := Option.some.inj (e1.symm.trans hb)
     exact .inr (by rw [← e2]; show wo.heap.size ≤ (w1.alloc _).heap.size; rw [World.size_alloc]; omega)
   have hkG3 : Keeps G w w3 := Hq.out.2.2.2.2.2.2.2.2.2.2.trans (hV3.keeps fun b hb => ⟨by have := (H0.out.2.2.2.1 b hb).1; omega, (H0.out.2.2.2.1 b hb).2.2⟩)
   have hGK : ∀ b, G b → ¬ K1 b := fun b hb h1 => by
    rcases Hq.out.2.1 b h1 with h2 | h2
    ·exact (H0.out.2.2.2.1 b hb).2.1 h2
    ·have := (H0.out.2.2.2.1 b hb).1; omega
   have hHC := Hq.out.2.2.2.2.2.2.2.1.run (h := h) (pre := pre ++ [e]) (us := us ++ [.pointer c0, .pointer c1, .pointer c2, .pointer c3]) (pv := .slice nA (pre.length + 1) nc) (Hq.out.2.2.2.2.2.2.1.keeps hkG3)
    (fun b hb => ⟨by have := (H0.out.2.2.2.1 b hb).1; omega, hGK b hb, fun e1 => by
     rcases hvo b e1 with h1 | h1
     ·exact (H0.out.2.2.2.1 b hb).2.2 h1
     ·have := (H0.out.2.2.2.1 b hb).1; omega⟩) hJ3 (by rw [hl1]; exact hown3)
    (Cells.append (H0.out.2.2.2.2.2.2.1.mono fun _ _ h => h.keeps hkG3) (Cells.one (Hq.out.2.2.2.2.2.2.2.2.2.1.keeps hkG3) rfl))
    (fun b hb h1 => by
     rcases hvo b hb with h2 | h2
     ·exact (hpbw b h2).2.2 h1
     ·have := hK1l b h1; omega)
    Hq.out.2.2.2.2.2.2.2.2.1 (by rw [hl1]; exact hn2) (by rw [List.length_append, List.length_map]; have := Hn.out.2; have := Hq.out.2.2.2.2.2.1; omega)
   rw [hl1] at hHC
   have HC := hide hHC
   have H3 := hide (And.intro hV3 (And.intro hkeep3 (And.intro hown3 (And.intro hpbw hvo))))
   clear hHC hown3 hg3 hat3 hkeep3 hV3 hJ3 hkG3 hS0 hS hS3 hb3 H1 hpbw hvo hGK hK1l hl1
   go_wp2_with fail
   refine HC.out.mono ?_
   rintro en w4 ⟨rfl, K4, hJ4, hK4, hw4, hown4⟩
   have e5 : vis ++ (St.pathsK (ks.take (k + 1))).map (pre ++ ·) = (vis ++ (St.pathsK (ks.take k)).map (pre ++ ·)) ++ t.paths.map ((pre ++ [e]) ++ ·) := by
    rw [Hq.out.2.2.2.2.1, List.map_append, List.append_assoc, List.map_map]
    congr 2
    exact List.map_congr_left fun p _ => by simp
   have Hfin := hide (show KLInv J B w vis K (.slice PA pre.length pc) pre us ks (.int .i64 ((k + 1 : Nat) : Int)) w4 from by
    refine ⟨k + 1, K4, rfl, by omega, by rw [e5]; exact hJ4, fun b hb => ?_, ?_, ?_⟩
    ·rcases hK4 b hb with h1 | h1
     ·exact Hq.out.2.1 b h1
     ·exact .inr (by have := H3.out.1.size; omega)
    ·refine (Hq.out.2.2.1.trans H3.out.1 fun x hx => .inl (.inr hx)).trans hw4 fun x hx => ?_
     rcases hx with hx | hx
     ·rcases Hq.out.2.1 x hx with h1 | h1
      ·exact .inl (.inl h1)
      ·exact .inr h1
     ·rcases H3.out.2.2.2.2 x hx with h1 | h1
      ·exact .inl (.inr h1)
      ·exact .inr (by omega)
    ·exact own_shorter H3.out.2.1 H3.out.2.2.1 hown4 fun b hb hne => hw4.frame b (H3.out.2.1.lt b hb).2 fun h1 => h1.elim (H3.out.2.2.2.1 b hb).2.2 hne)
   clear hJ4 hK4 hw4 hown4 e5
   go_wp2_with fail
   exact ⟨Hfin.out, by simp [intOf]; omega⟩
  ·have hke : k = ks.length := by omega
   subst hke
   have hki1 : ¬ ((ks.length : Nat) : Int) < (ks.length : Int) := by omega
   rw [List.take_length] at hJ
   have H3 := hide (And.intro hJ (And.intro hK1 (And.intro hw hown)))
   clear hJ hK1 hw hown hlt
   go_wp2
   go_returns
   exact ⟨rfl, K1, H3.out.1, H3.out.2.1, H3.out.2.2.1, H3.out.2.2.2⟩

theorem paths_mk (m : List E) (ks : List (E × St)) : (St.mk m ks).paths = m.map (fun e => [e]) ++ St.pathsK ks := by rw [St.paths]

set_option maxRecDepth 100000 in
set_option maxHeartbeats 4000000 in
theorem iterSet {fid : FuncId} {cap : Array Value} {J : List (List E) → (Nat → Prop) → World → Prop} {B N M : Nat} (C : Clos fid cap J B N M) (hN : N * 168 ≤ R47) {m : List E} {ks : List (E × St)} (ih : ∀ k ∈ ks, IterOK fid cap J B N M k.2) : IterOK fid cap J B N M (.mk m ks) := by
 constructor
 intro w g h pre us pv vis K G hs hG hJ hown hus hpb hht hn hM
 cases hs with
 | @mk _ _ _ MA KA mc kc xs ys Gs h1 h2 h3 h4 h5 h6 h7 h8 h9 h10 h11 h12 h13 =>
 cases hht with
 | @mk h _ _ hht =>
 rw [paths_mk, List.length_append, List.length_map] at hM
 obtain ⟨PA, pc, rfl, _, _⟩ := own_form hown
 have hpl := hown.lt
 have hKl := C.lt hJ
 have hBw := C.base hJ
 have hb2 : Below w.heap.size w ((w.alloc (.cells #[.slice PA pre.length pc] 133)).alloc (.cells #[.func (.func fid) #[] cap] 132)) := below_two w _ _
 have hX := (Bk.new w 133 #[.slice PA pre.length pc]).alloc (.cells #[.func (.func fid) #[] cap] 132)
 have hY := Bk.new (w.alloc (.cells #[.slice PA pre.length pc] 133)) 132 #[.func (.func fid) #[] cap]
 rw [World.size_alloc] at hY
 have hsz2 : ((w.alloc (.cells #[.slice PA pre.length pc] 133)).alloc (.cells #[.func (.func fid) #[] cap] 132)).heap.size = w.heap.size + 2 := by rw [World.size_alloc, World.size_alloc]
 have hgl := h2.lt
 have g0 := h2.cell 0
 have g1 := h2.cell 1
 simp at g0 g1
 have hkA : Keeps G w ((w.alloc (.cells #[.slice PA pre.length pc] 133)).alloc (.cells #[.func (.func fid) #[] cap] 132)) := Keeps.below hb2 fun b hb => (hG b hb).1
 have hit := esIterate_calls (F := G) (o := 0) (((bcell hb2).1 g 0 hgl).trans g0) h3 (h9.keeps hkA) (h11.mono fun _ _ h => h.keeps hkA) (fun a cs h => h.form)
  214 #[.pointer (some ⟨w.heap.size + 1, 0, none⟩), .pointer (some ⟨w.heap.size, 0, none⟩)] (fun args W => by kernel_rfl)
  (ItJ J B w vis K (.slice PA pre.length pc) pre us (.func (.func fid) #[] cap))
  (by
   refine ⟨K, ?_, fun b hb => .inl hb, Work.of_below hb2, ?_, ownsRow_below hown hb2 (Nat.le_refl _), hX, hY⟩
   ·simpa using C.keep hJ ⟨hb2.os, hb2.tape, hb2.output, hb2.size, fun b hb _ => hb2.block b hb⟩
   ·omega)
  (fun es W hI => by
   obtain ⟨K1, i1, i2, i3, i4, i5, i6, i7⟩ := hI
   intro b hb
   rw [i3.frame b (hG b hb).1 fun h => h.elim (hG b hb).2.1 (hG b hb).2.2, hb2.block b (hG b hb).1])
  (fun es W o hI => by
   obtain ⟨K1, i1, i2, i3, i4, i5, i6, i7⟩ := hI
   have hbo : Below W.heap.size W (W.alloc o) := (Below.refl _ _).alloc (Nat.le_refl _) _
   exact ⟨K1, C.keep i1 ⟨hbo.os, hbo.tape, hbo.output, hbo.size, fun b hb _ => hbo.block b hb⟩, i2, i3.trans (Work.of_below (K := fun _ => False) hbo) (fun _ h => False.elim h), by have := hbo.size; omega, ownsRow_below i5 hbo (Nat.le_refl _), i6.below hbo i6.lt, i7.below hbo i7.lt⟩)
  (fun k a cs W ha hq hI => by
   have hk := List.getElem?_eq_some_iff.1 ha
   have hk1 := hk.1
   rw [List.take_succ_eq_append_getElem hk1, hk.2]
   refine iterC_calls (N := N) (M := M) C hI hG hKl (fun b hb => ⟨(hpl b hb).2, hpb b hb⟩) hus ?_ (by omega) hN (by rw [List.length_take]; omega)
   obtain ⟨K1, i1, i2, i3, i4, i5, i6, i7⟩ := hI
   exact hq.keeps fun b hb => (hb2.block b (hG b hb).1).symm)
 have Hit := hide hit
 have H0 := hide (And.intro hG (And.intro hus (And.intro hpb (And.intro hpl hKl))))
 have H1 := hide (And.intro h4 (And.intro h10 (And.intro h12 (And.intro h13 hht))))
 have Hn := hide (And.intro hn hM)
 have Hih := hide ih
 have h1' := h1
 clear hit hG hus hpb hpl hKl h4 h10 h12 h13 hht hn hM ih h1 h2 h3 h5 h6 h7 h8 h9 h11 hb2 hX hY hkA hJ hown g0 hsz2
 go_enter Tryz.func185, Tryz.ntmps185
 go_wp2_with fail
 refine Hit.out.mono ?_
 clear Hit
 rintro en w3 ⟨rfl, K1, i1, i2, i3, i4, i5, i6, i7⟩
 have p0 := i6.cell 0
 have f0 := i7.cell 0
 have m0 : w3.cell? ⟨g, 1, none⟩ = some (.slice KA ks.length kc) := by
  exact (World.cell?_of_block (i3.frame g hgl fun h => h.elim (H0.out.1 g h1').2.1 (H0.out.1 g h1').2.2)).trans g1
 simp at p0 f0
 have hG3 : ∀ b, G b → b < w3.heap.size ∧ ¬ K1 b ∧ (Value.slice PA pre.length pc).ownBlock ≠ some b := fun b hb => by
  have h := H0.out.1 b hb
  refine ⟨by omega, fun hk => ?_, h.2.2⟩
  rcases i2 b hk with h' | h'
  ·exact h.2.1 h'
  ·omega
 have hk3 : Keeps G w w3.drew := fun b hb => i3.frame b (H0.out.1 b hb).1 fun h => h.elim (H0.out.1 b hb).2.1 (H0.out.1 b hb).2.2
 have i1' : J (vis ++ m.map (fun e => pre ++ [e])) K1 w3.drew := C.keep i1 ⟨rfl, rfl, rfl, Nat.le_refl _, fun _ _ _ => rfl⟩
 have hit2 := iterKids C hN Hih.out (w := w3.drew) (h := h) m0 (by show g < w3.heap.size; omega) H1.out.1 (H1.out.2.1.keeps hk3) (fun i k hk => (H1.out.2.2.1 i k hk).keeps hk3) (fun i k hk => (H1.out.2.2.2.1 i k hk).keeps hk3) hG3 i1' i5 (H0.out.2.1.mono fun _ _ h => h.keeps hk3)
  (fun b hb hk => by
   rcases i2 b hk with h' | h'
   ·exact H0.out.2.2.1 b hb h'
   ·have := (H0.out.2.2.2.1 b hb).2; omega) H1.out.2.2.2.2 (fun _ => by have := Hn.out.1; omega) (by have := Hn.out.2; simp; omega)
 have Hit2 := hide hit2
 have H3 := hide (And.intro i2 (And.intro i3 i4))
 clear hit2 i1 i1' i2 i3 i4 i5 i6 i7 hG3 hk3 m0 Hih H1
 go_upto_region 2 with fail
 go_still_tail 5, (by kernel_rfl)
 change wpList _ _ _ _ _ w3.drew
 go_wp2_with fail
 refine Hit2.out.mono ?_
 rintro en w4 ⟨rfl, K2, j1, j2, j3, j4⟩
 have Hfin := hide (show IterPost J B w vis K (.slice PA pre.length pc) pre.length us ((m.map (fun e => [e]) ++ St.pathsK ks).map (pre ++ ·)) (.returned (.tuple #[])) w4 from by
  refine ⟨rfl, K2, ?_, fun b hb => ?_, (H3.out.2.1.trans (K' := fun _ => False) (c := w3.drew) ⟨rfl, rfl, rfl, Nat.le_refl _, fun _ _ _ => rfl⟩ (fun _ h => False.elim h)).trans j3 fun x hx => ?_, j4⟩
  ·rw [List.map_append, List.map_map, ← List.append_assoc]; exact j1
  ·rcases j2 b hb with h' | h'
   ·exact (H3.out.1 b h').imp id fun h => by omega
   ·exact .inr (by have : w3.heap.size ≤ b := h'; have := H3.out.2.2; omega)
  ·rcases hx with hx | hx
   ·exact (H3.out.1 x hx).elim (fun h => .inl (.inl h)) fun h => .inr (by omega)
   ·exact .inl (.inr hx))
 rw [← paths_mk] at Hfin
 clear j1 j2 j3 j4 Hit2
 go_wp2
 go_returns
 exact Hfin.out

theorem iterOK {fid : FuncId} {cap : Array Value} {J : List (List E) → (Nat → Prop) → World → Prop} {B N M : Nat} (C : Clos fid cap J B N M) (hN : N * 168 ≤ R47) : ∀ s : St, IterOK fid cap J B N M s
 | .mk m ks => iterSet C hN fun k hk => have _h := kid_lt (s := .mk m ks) hk; iterOK C hN k.2
decreasing_by exact kid_lt hk

end Go.Proofs.YtbicoknghdgahaaGreat

namespace Go.Proofs.YtbicoknghdgahaaGreat
open Go.RowKit
attribute [local go_sem] run_store_float

inductive St.All (P : E → Prop) : St → Prop
 | mk {m : List E} {ks : List (E × St)} : (∀ e ∈ m, P e) → (∀ k ∈ ks, P k.1) → (∀ k ∈ ks, St.All P k.2) → St.All P (.mk m ks)
theorem St.All.empty_ (P : E → Prop) : St.All P St.empty := .mk (by simp) (by simp) (by simp)
theorem ins_all {P : E → Prop} : ∀ {p : List E} {s : St}, s.All P → (∀ e ∈ p, P e) → (St.ins p s).All P
 | [], s, h, _ => h
 | [e], s, h, hp => by
  cases h with
  | mk h1 h2 h3 =>
   refine .mk (fun x hx => ?_) h2 h3
   rcases mem_insC hx with rfl | hx
   ·exact hp _ (by simp)
   ·exact h1 x hx
 | e :: x :: p, s, h, hp => by
  cases h with
  | mk h1 h2 h3 =>
   have hp' : ∀ y ∈ x :: p, P y := fun y hy => hp y (List.mem_cons_of_mem _ hy)
   refine .mk h1 (fun k hk => ?_) fun k hk => ?_
   ·rcases mem_insK hk with rfl | ⟨k', h6, rfl⟩ | hk
    ·exact hp _ (by simp)
    ·exact h2 k' h6
    ·exact h2 k hk
   ·rcases mem_insK hk with rfl | ⟨k', h6, rfl⟩ | hk
    ·exact ins_all (St.All.empty_ P) hp'
    ·exact ins_all (h3 k' h6) hp'
    ·exact h3 k hk
theorem paths_all {P : E → Prop} {s : St} (h : s.All P) : ∀ p ∈ s.paths, ∀ e ∈ p, P e := by
 induction h with
 | mk h1 h2 h3 ih =>
  intro p hp x hx
  rcases paths_mem.1 hp with ⟨e, he, rfl⟩ | ⟨k, hk, q, hq, rfl⟩
  ·rw [List.mem_singleton.1 hx]; exact h1 e he
  ·rcases List.mem_cons.1 hx with rfl | hx
   ·exact h2 k hk
   ·exact ih k hk q hq x hx
theorem setP_all {P : E → Prop} {l : List (List E)} (h : ∀ p ∈ l, ∀ e ∈ p, P e) : (setP l).All P := by
 have : ∀ (l : List (List E)) (s : St), (∀ p ∈ l, ∀ e ∈ p, P e) → s.All P → (l.foldl (fun s p => St.ins p s) s).All P := by
  intro l
  induction l with
  | nil => exact fun s _ h => h
  | cons p l ih => exact fun s h hs => ih _ (fun q hq => h q (List.mem_cons_of_mem _ hq)) (ins_all hs (h p (by simp)))
 exact this l _ h (St.All.empty_ P)
theorem insK_count {e : E} {f : St → St} (h : ∀ t : St, (f t).paths.length ≤ t.paths.length + 1) : ∀ ks : List (E × St), (St.pathsK (insK e f ks)).length ≤ (St.pathsK ks).length + 1
 | [] => by
  have h0 := h St.empty
  have e0 : St.empty.paths.length = 0 := by simp [St.empty, St.paths, St.pathsK]
  simp only [insK, St.pathsK, List.length_append, List.length_map, List.length_nil]
  omega
 | (a, t) :: ks => by
  have h0 := h St.empty
  have e0 : St.empty.paths.length = 0 := by simp [St.empty, St.paths, St.pathsK]
  have ht := h t
  have ih := insK_count (e := e) h ks
  rw [insK]
  split
  ·rw [St.pathsK, St.pathsK, List.length_append, List.length_append]; omega
  ·split
   ·simp only [St.pathsK, List.length_append, List.length_map]; omega
   ·simp only [St.pathsK, List.length_append, List.length_map]; omega
theorem ins_count : ∀ (p : List E) (s : St), (St.ins p s).paths.length ≤ s.paths.length + 1
 | [], s => by cases s; exact Nat.le_succ _
 | [e], .mk m ks => by
  have := insC_length (c := E.cmp) e m
  simp only [St.ins, St.paths, St.mem, St.kids, List.length_append, List.length_map]
  omega
 | e :: x :: p, .mk m ks => by
  have := insK_count (e := e) (ins_count (x :: p)) ks
  simp only [St.ins, St.paths, St.mem, St.kids, List.length_append, List.length_map]
  omega
theorem setP_count (l : List (List E)) : (setP l).paths.length ≤ l.length := by
 have : ∀ (l : List (List E)) (s : St), (l.foldl (fun s p => St.ins p s) s).paths.length ≤ s.paths.length + l.length := by
  intro l
  induction l with
  | nil => exact fun s => Nat.le_refl _
  | cons p l ih =>
   intro s
   have h1 := ih (St.ins p s)
   have h2 := ins_count p s
   rw [List.foldl_cons, List.length_cons]
   omega
 have h := this l St.empty
 have e0 : St.empty.paths.length = 0 := by simp [St.empty, St.paths, St.pathsK]
 unfold setP
 omega

set_option maxRecDepth 100000 in
theorem iterate_calls {fid : FuncId} {cap : Array Value} {J : List (List E) → (Nat → Prop) → World → Prop} {B N M : Nat} (C : Clos fid cap J B N M) (hN : N * 168 ≤ R47) {s : St} {w : World} {g h : Nat} {vis : List (List E)} {K G : Nat → Prop}
  (hs : SetR G w g s) (hG : ∀ b, G b → b < w.heap.size ∧ ¬ K b) (hJ : J vis K w) (hht : s.Ht h) (hn : h ≤ N) (hM : vis.length + s.paths.length ≤ M) :
  Calls Tryz.prog 127 #[.pointer (some ⟨g, 0, none⟩), .func (.func fid) #[] cap] w fun en w' => en = .returned (.tuple #[]) ∧ ∃ K', J (vis ++ s.paths) K' w' ∧ (∀ b, K' b → K b ∨ w.heap.size ≤ b) ∧ Work K w w' := by
 have hown0 := World.ownsRow_lit (base := B) (e := 109) (size := 4) w #[] 0 (C.base hJ) (by simp [maxLen]) (by simp)
 have hb0 : Below w.heap.size w (w.alloc (.cells #[] 109)) := (Below.refl _ _).alloc (Nat.le_refl _) _
 have hKl := C.lt hJ
 have hrun := (iterOK C hN s).run (h := h) (pre := []) (us := []) (hs.keeps (Keeps.below hb0 fun b hb => (hG b hb).1)) (fun b hb => ⟨by have := (hG b hb).1; have := hb0.size; omega, (hG b hb).2, fun e => by have e1 : w.heap.size = b := Option.some.inj e; have := (hG b hb).1; omega⟩)
  (C.keep hJ ⟨hb0.os, hb0.tape, hb0.output, hb0.size, fun b hb _ => hb0.block b hb⟩) hown0 Cells.nil_ (fun b hb hk => by have e1 : w.heap.size = b := Option.some.inj hb; have := hKl b hk; omega) hht (by simpa using hn) hM
 have H := hide hrun
 have Hb := hide hb0
 clear hrun hb0 hown0 hs hG hJ hht hn hM hKl
 go_enter Tryz.func127, Tryz.ntmps127
 go_wp2_with fail
 refine H.out.mono ?_
 rintro en w2 ⟨rfl, K2, j1, j2, j3, j4⟩
 have Hfin := hide (show ∃ K', J (vis ++ s.paths) K' w2 ∧ (∀ b, K' b → K b ∨ w.heap.size ≤ b) ∧ Work K w w2 from by
  refine ⟨K2, by simpa using j1, fun b hb => ?_, (Work.of_below Hb.out).trans j3 fun x hx => ?_⟩
  ·rcases j2 b hb with h' | h'
   ·exact .inl h'
   ·exact .inr (by have := Hb.out.size; omega)
  ·rcases hx with h' | h'
   ·exact .inl h'
   ·have e1 : w.heap.size = x := Option.some.inj h'
    exact .inr (by omega))
 clear j1 j2 j3 j4 H
 go_wp2
 go_returns
 exact ⟨rfl, Hfin.out⟩

theorem fromSet_clos (w0 : World) {N M : Nat} (hN : N * 168 ≤ R47) (hM : M * 24 ≤ R47) : Clos 128 #[.pointer (some ⟨w0.heap.size, 0, none⟩)] (OutP w0) w0.heap.size N M where
 enter := fun args W => by kernel_rfl
 keep := fun h hw => h.keep hw
 lt := fun h b hb => by
  obtain ⟨s, xs, h1, h2, h3, h4, h5, h6, h7⟩ := h
  exact (h7 b hb).2
 base := fun h => by
  obtain ⟨s, xs, h1, h2, h3, h4, h5, h6, h7⟩ := h
  exact h4.size
 step := fun hJ hp hG hv hpl => fromSetC_calls hJ hp hG (Nat.le_trans (Nat.mul_le_mul_right _ hv) hM) (Nat.le_trans (Nat.mul_le_mul_right _ hpl) hN)

set_option maxRecDepth 100000 in
theorem fromSet_calls {s : St} {w : World} {g h : Nat} (hs : SetR (Old w) w g s) (hht : s.Ht h) (hN : h * 168 ≤ R47) (hM : s.paths.length * 24 ≤ R47) :
  Calls Tryz.prog 76 #[.pointer (some ⟨g, 0, none⟩)] w (GivesPaths (s.paths.map (List.map E.toREl)) w) := by
 have hb0 : Below w.heap.size w (w.alloc (.cells #[.slice none 0 0] 36)) := (Below.refl _ _).alloc (Nat.le_refl _) _
 have hJ0 : OutP w [] (fun b => b = w.heap.size) (w.alloc (.cells #[.slice none 0 0] 36)) :=
  ⟨_, [], Bk.new _ _ _, World.ownsRow_nil _ _ _ _, Cells.nil_, hb0, rfl, by simp [Value.ownBlock], fun b hb => by rw [World.size_alloc]; omega⟩
 have hit := iterate_calls (fromSet_clos w hN hM) hN (hs.keeps (Keeps.below hb0 fun _ h => h)) (fun b hb => by have hb : b < w.heap.size := hb; rw [World.size_alloc]; omega) hJ0 hht (Nat.le_refl _) (by simp)
 have H := hide hit
 have Hn := hide (And.intro hM hb0)
 clear hit hJ0 hb0 hs hht hN hM
 go_enter Tryz.func76, Tryz.ntmps76
 go_wp2_with fail
 refine H.out.mono ?_
 rintro en w1 ⟨rfl, K1, ⟨v, xs, h1, h2, h3, h4, h5, h6, h7⟩, -, -⟩
 rw [List.nil_append] at h2 h3
 obtain ⟨B, d, rfl, hd1, hd2⟩ := own_form h2
 have m0 := h1.cell 0
 simp at m0
 have hlt := h2.lt
 have hlm : (s.paths.map (List.map E.toREl)).length = s.paths.length := List.length_map _
 have hfin : PathsAt (Fr w.heap.size w1) w1 (s.paths.map (List.map E.toREl)) B d :=
  ⟨by rw [hlm]; exact Hn.out.1, by rw [hlm]; exact hd1, hd2, xs, by rw [hlm]; exact Row.of_own h2 fun b hb => ⟨by have := (hlt b hb).1; omega, (hlt b hb).2⟩, h3.mono fun _ _ h => PQ.mono h fun b hb => ⟨by have := hb.1; omega, hb.2.1⟩⟩
 have Hfin := hide (And.intro hfin h4)
 have Hlm := hide hlm
 clear h1 h2 h3 h4 h5 h6 h7 hlt hfin hlm H
 go_wp2
 go_ret
 exact ⟨B, d, by rw [Hlm.out]; rfl, Hfin.out.1, Hfin.out.2⟩

end Go.Proofs.YtbicoknghdgahaaGreat

namespace Go.Proofs.YtbicoknghdgahaaGreat
open Go.RowKit

theorem pels_all {ls : List (List REl)} {P : List E → Prop} (h : ∀ l ∈ ls, P (pel l)) : ∀ p ∈ pels ls, P p := fun p hp => by
 obtain ⟨l, hl, rfl⟩ := List.mem_map.1 hp
 exact h l hl
end Go.Proofs.YtbicoknghdgahaaGreat

namespace Go.Proofs.YtbicoknghdgahaaGreat
open Go.RowKit
attribute [local go_sem] run_store_float

def OPInv {α : Type} (w : World) (ls : List α) (ok : α → Prop) (s : Value) (W : World) : Prop := ∃ k : Nat, s = .int .i64 (k : Int) ∧ k ≤ ls.length ∧ (∀ (i : Nat) l, i < k → ls[i]? = some l → ok l) ∧ Below w.heap.size w W

set_option maxRecDepth 100000 in
set_option maxHeartbeats 4000000 in
theorem orderlyPaths_calls {ls : List (List REl)} {A : Option Addr} {c : Nat} {w : World} (h : PathsAt (Old w) w ls A c) :
  Calls Tryz.prog 28 #[.slice A ls.length c] w (OrdPost (∀ l ∈ ls, POk (pel l)) w) := by
 obtain ⟨h1, h2, h3, xs, h4, h5⟩ := h
 have h1' : ls.length * 24 ≤ 140737488351232 := h1
 have H7 := hide (And.intro h4 h5)
 clear h1 h4 h5
 go_enter Tryz.func28, Tryz.ntmps28
 go_wp2_with fail
 go_loopw [9] (fun s W => OPInv w ls (fun l => POk (pel l)) s W) (fun s _ => ls.length - (intOf s).toNat)
 case atStart => exact ⟨0, rfl, Nat.zero_le _, fun i l h => by omega, Below.refl _ _⟩
 case round =>
  obtain ⟨k, rfl, hk, hall, hb⟩ := hrel
  by_cases hlt : k < ls.length
  ·have hki0 : (0 : Int) ≤ (k : Int) := Int.natCast_nonneg _
   have hki1 : (k : Int) < (ls.length : Int) := by omega
   have hx := H7.out.2.at_ hlt
   have hxk : ls[k]? = some ls[k] := List.getElem?_eq_getElem hlt
   generalize ls[k] = l at *
   obtain ⟨B, d, ecs, hl⟩ := hx
   obtain ⟨rb, ro, rfl, hF, hc⟩ := rown_at H7.out.1 hlt ecs
   have q0 := ((bcell hb).1 _ _ hF).trans (hc 0 _ rfl)
   rw [Nat.mul_one, Nat.add_zero] at q0
   have hrb : rb < w.heap.size := hF
   obtain ⟨g1, g2, g3, ys, g4, g5⟩ := hl
   have g1' : l.length * 168 ≤ 140737488351232 := g1
   have HL := hide (And.intro g4 g5)
   have Hb := hide (And.intro hb (And.intro hall hxk))
   clear hb hall hxk hc hF ecs g1 g4 g5
   go_wp2_with fail
   go_loopw [15] (fun s W => OPInv w l (fun r => r.elem.Ok) s W) (fun s _ => l.length - (intOf s).toNat)
   case atStart => exact ⟨0, rfl, Nat.zero_le _, fun i l h => by omega, Hb.out.1⟩
   case round =>
    obtain ⟨j, rfl, hj, hal, hb⟩ := hrel
    clear q0
    by_cases hltj : j < l.length
    ·have hji0 : (0 : Int) ≤ (j : Int) := Int.natCast_nonneg _
     have hji1 : (j : Int) < (l.length : Int) := by omega
     have hx := HL.out.2.at_ hltj
     have hxj : l[j]? = some l[j] := List.getElem?_eq_getElem hltj
     generalize l[j] = fx at *
     generalize hcs : (ys.drop (j * 11)).take 11 = fcs at hx
     obtain ⟨a0, a1, a2, a3, a4, a5, a6, a7, a8, a9, aa, ab, ac, ad, ae, af, ag, ah, ai, rfl⟩ := hx.form
     obtain ⟨sb, so, rfl, hG, hd⟩ := rown_at HL.out.1 hltj hcs
     have ec := (bcell hb).1
     have m0 := (ec _ _ hG).trans (hd 0 _ rfl)
     have m1 := (ec _ _ hG).trans (hd 1 _ rfl)
     have m2 := (ec _ _ hG).trans (hd 2 _ rfl)
     have m3 := (ec _ _ hG).trans (hd 3 _ rfl)
     have m4 := (ec _ _ hG).trans (hd 4 _ rfl)
     have m5 := (ec _ _ hG).trans (hd 5 _ rfl)
     have m6 := (ec _ _ hG).trans (hd 6 _ rfl)
     have m7 := (ec _ _ hG).trans (hd 7 _ rfl)
     have m8 := (ec _ _ hG).trans (hd 8 _ rfl)
     have m9 := (ec _ _ hG).trans (hd 9 _ rfl)
     have m10 := (ec _ _ hG).trans (hd 10 _ rfl)
     rw [Nat.add_zero] at m0
     have hsb : sb < w.heap.size := hG
     have HO := hide fun (W : World) (hb : Below w.heap.size w W) => orderlyElem_calls fx W _ (hx.at_ hb)
     have Hb2 := hide (And.intro hb (And.intro hal hxj))
     clear hb hal hxj hx hcs hd ec hG
     go_wp2_with fail
     have hbA : Below w.heap.size w (wr.alloc (.cells #[.int .i64 a0, .string a1, .slice a2 a3 a4, .slice a5 a6 a7, .int .i64 a8, .int .i64 a9, .float .f64 aa, .string ab, .slice ac ad ae, .slice af ag ah, .int .i64 ai] 29)) := Hb2.out.1.alloc Hb2.out.1.size _
     generalize World.alloc wr _ = W2 at hbA ⊢
     refine (HO.out W2 hbA).mono ?_
     rintro e w2 ⟨b, rfl, hbo, hb2⟩
     have H2 := hide (And.intro (hbA.trans (hb2.mono hbA.size)) hbo)
     clear hbA hb2 hbo m0 m1 m2 m3 m4 m5 m6 m7 m8 m9 m10 HO
     cases b
     ·go_wp2
      go_ret
      exact ⟨false, rfl, (fun h => by cases h), H2.out.1⟩
     ·go_wp2_with fail
      refine ⟨⟨j + 1, by go_num, by omega, fun i y hi hy => ?_, H2.out.1⟩, by simp [intOf]; omega⟩
      by_cases hij : i = j
      ·subst hij
       have := Hb2.out.2.2
       rw [hy] at this
       cases this
       exact H2.out.2 (by first | trivial | rfl)
      ·exact Hb2.out.2.1 i y (by omega) hy
    ·have hje : ¬ (j : Int) < (l.length : Int) := by omega
     have hok : POk (pel l) := fun e he => by
      obtain ⟨r, hr, rfl⟩ := List.mem_map.1 he
      obtain ⟨i, hi, e⟩ := List.getElem_of_mem hr
      exact hal i r (by omega) (by rw [← e]; exact List.getElem?_eq_getElem hi)
     have H2 := hide (And.intro hb hok)
     clear hb hal hok
     go_wp2_with fail
     refine ⟨⟨k + 1, by go_num, by omega, fun i y hi hy => ?_, H2.out.1⟩, by simp [intOf]; omega⟩
     by_cases hik : i = k
     ·subst hik
      have := Hb.out.2.2
      rw [hy] at this
      cases this
      exact H2.out.2
     ·exact Hb.out.2.1 i y (by omega) hy
  ·have hki1 : ¬ ((k : Nat) : Int) < (ls.length : Int) := by omega
   have hok : ∀ l ∈ ls, POk (pel l) := fun l hl => by
    obtain ⟨i, hi, e⟩ := List.getElem_of_mem hl
    exact hall i l (by omega) (by rw [← e]; exact List.getElem?_eq_getElem hi)
   have H2 := hide (And.intro hb hok)
   clear hb hall hok
   go_wp2
   go_ret
   exact ⟨true, rfl, fun _ => H2.out.2, H2.out.1⟩

end Go.Proofs.YtbicoknghdgahaaGreat

namespace Go.Proofs.YtbicoknghdgahaaGreat

def St.emp : St → Bool
 | .mk m ks => m.isEmpty && empK ks
where empK : List (E × St) → Bool
 | [] => true
 | (_, s) :: r => s.emp && empK r
end Go.Proofs.YtbicoknghdgahaaGreat

namespace Go.Proofs.YtbicoknghdgahaaGreat
open Go.RowKit
attribute [local go_sem] run_store_float

def KQ (F : Nat → Prop) (w : World) (k : E × St) (cs : List Value) : Prop := ∃ g, KidAt F w k.1 g cs ∧ SetR F w g k.2
theorem KQ.keeps {F : Nat → Prop} {w w' : World} {k : E × St} {cs : List Value} (h : KQ F w k cs) (hk : Keeps F w w') : KQ F w' k cs := by
 obtain ⟨g, h1, h2⟩ := h
 exact ⟨g, h1.keeps hk, h2.keeps hk⟩
theorem KQ.mono {F G : Nat → Prop} {w : World} {k : E × St} {cs : List Value} (h : KQ F w k cs) (hk : ∀ b, F b → G b) : KQ G w k cs := by
 obtain ⟨g, h1, h2⟩ := h
 exact ⟨g, h1.mono hk, h2.mono hk⟩
theorem KQ.form {F : Nat → Prop} {w : World} {k : E × St} {cs : List Value} (h : KQ F w k cs) : ∃ (a b c d : Option Addr) (g : Nat), cs = [.pointer a, .pointer b, .pointer c, .pointer d, .pointer (some ⟨g, 0, none⟩)] ∧ PEAt F w k.1 [.pointer a, .pointer b, .pointer c, .pointer d] ∧ SetR F w g k.2 := by
 obtain ⟨g, ⟨p0, p1, p2, p3, rfl, h1⟩, h2⟩ := h
 obtain ⟨a, b, c, d, e⟩ := h1.form
 simp only [List.cons.injEq, and_true] at e
 obtain ⟨rfl, rfl, rfl, rfl⟩ := e
 exact ⟨a, b, c, d, g, rfl, h1, h2⟩
theorem SetR.parts {F : Nat → Prop} {w : World} {g : Nat} {s : St} (h : SetR F w g s) : ∃ (MA KA : Option Addr) (mc kc : Nat) (xs ys : List Value),
  F g ∧ Bk w g 130 #[.slice MA s.mem.length mc, .slice KA s.kids.length kc] ∧ s.mem.length * 32 ≤ R47 ∧ s.kids.length * 40 ≤ R47 ∧ s.mem.length ≤ mc ∧ mc ≤ maxLen ∧ s.kids.length ≤ kc ∧ kc ≤ maxLen ∧
  Row F w 4 MA s.mem.length xs ∧ Row F w 5 KA s.kids.length ys ∧ Cells 4 (PEAt F w) s.mem xs ∧ Cells 5 (KQ F w) s.kids ys := by
 cases h with
 | @mk _ m ks MA KA mc kc xs ys G h1 h2 h3 h4 h5 h6 h7 h8 h9 h10 h11 h12 h13 =>
  exact ⟨MA, KA, mc, kc, xs, ys, h1, h2, h3, h4, h5, h6, h7, h8, h9, h10, h11, h10.1, fun i k hk => ⟨G i, h12 i k hk, h13 i k hk⟩⟩
end Go.Proofs.YtbicoknghdgahaaGreat

namespace Go.Proofs.YtbicoknghdgahaaGreat

inductive St.Full : St → Prop
 | mk {m : List E} {ks : List (E × St)} : (∀ k ∈ ks, k.2.emp = false) → (∀ k ∈ ks, St.Full k.2) → St.Full (.mk m ks)
theorem St.Full.empty_ : St.empty.Full := .mk (by simp) (by simp)
end Go.Proofs.YtbicoknghdgahaaGreat
