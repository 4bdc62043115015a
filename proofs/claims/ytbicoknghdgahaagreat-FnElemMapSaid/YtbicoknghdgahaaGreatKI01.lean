/- Parts: PathOk, LawSetInOrder, Conflict, Conflict2, RowCf. -/
import Derived.Test.YtbicoknghdgahaaGreatKB16
import Derived.Test.YtbicoknghdgahaaGreatKB17
import Derived.Test.YtbicoknghdgahaaGreatKC01
import Derived.Test.YtbicoknghdgahaaGreatKF01
set_option linter.unusedVariables false
set_option linter.unusedSimpArgs false
namespace Go.Proofs.YtbicoknghdgahaaGreat
open Go.RowKit
attribute [local go_sem] run_store_float

set_option maxRecDepth 100000 in
theorem tame_calls {l : List REl} {A : Option Addr} {c : Nat} {w : World} (h : PathAt (Old w) w l A c) :
  Calls Tryz.prog 15 #[.slice A l.length c] w (OrdPost (POk (pel l)) w) := by
 have hb0 : Below w.heap.size w (w.alloc (.cells #[.slice A l.length c] 22)) := (Below.refl _ _).alloc (Nat.le_refl _) _
 have HP := hide (orderlyPaths_calls (ls := [l]) (A := some ⟨w.heap.size, 0, none⟩) (c := 1) (w := w.alloc (.cells #[.slice A l.length c] 22)) ⟨by unfold R47; simp, by simp, by unfold maxLen; decide, [.slice A l.length c], Row.of_bkp (Bk.new w 22 [.slice A l.length c].toArray) rfl (by unfold Old; simp), Cells.one ⟨A, c, rfl, h.at_ hb0⟩ rfl⟩)
 have Hb0 := hide hb0
 clear hb0
 generalize hln : l.length = ln at *
 clear hln
 have Hok := hide (show (∀ m ∈ [l], POk (pel m)) → POk (pel l) from fun h => h l (by simp))
 generalize (∀ m ∈ [l], POk (pel m)) = P1 at *
 generalize POk (pel l) = P2 at *
 clear h
 go_enter Tryz.func15, Tryz.ntmps15
 go_wp2_with fail
 refine HP.out.mono ?_
 rintro e w1 ⟨b, rfl, hbo, hb1⟩
 have H1 := hide (And.intro (Hb0.out.trans (hb1.mono Hb0.out.size)) fun h => Hok.out (hbo h))
 clear hbo hb1
 go_wp2
 go_ret
 exact ⟨b, rfl, H1.out.2, H1.out.1⟩

end Go.Proofs.YtbicoknghdgahaaGreat

namespace Go.Proofs.YtbicoknghdgahaaGreat
open Go.RowKit
attribute [local go_sem] run_store_float

theorem setP_pws {ls : List (List REl)} : ∀ p ∈ (setP (pels ls)).paths, PWS p := paths_all (setP_all fun p hp => pels_pws hp)
theorem made_alike {ls : List (List REl)} (h : ∀ p ∈ pels ls, POk p) : Alike wcmp (setP (pels ls)).paths (specS (pels ls)) := by
 have h1 := specS_ok h
 refine alike_of wcmp_ord (paths_pok (setP_wf h)) h1.1 (paths_sorted (setP_wf h)) h1.2.1 fun x hx => ?_
 rw [specS_has h hx]
 by_cases hx0 : x = []
 ·subst hx0
  constructor
  ·exact fun h2 => absurd h2 (has_nil (setP_wf h))
  ·rintro ⟨p, hp, hp0, e⟩
   exact absurd (List.eq_nil_of_length_eq_zero (wcmp_len e)) hp0
 ·rw [show HasC wcmp (setP (pels ls)).paths x ↔ _ from has_setP h hx hx0]
  constructor
  ·rintro ⟨p, hp, e⟩
   exact ⟨p, hp, fun e0 => hx0 (by subst e0; exact List.eq_nil_of_length_eq_zero (wcmp_len e).symm), e⟩
  ·rintro ⟨p, hp, -, e⟩
   exact ⟨p, hp, e⟩

end Go.Proofs.YtbicoknghdgahaaGreat

namespace Go.Proofs.YtbicoknghdgahaaGreat
open Go.RowKit
attribute [local go_sem] run_store_float

def CfAt (F : Nat → Prop) (w : World) (k : ByteArray × List REl) (cs : List Value) : Prop := ∃ A c, cs = [.string k.1, .slice A k.2.length c] ∧ PathAt F w k.2 A c
def CfsAt (F : Nat → Prop) (w : World) (l : List (ByteArray × List REl)) (A : Option Addr) (c : Nat) : Prop := l.length * 40 ≤ R47 ∧ l.length ≤ c ∧ c ≤ maxLen ∧ ∃ xs, Row F w 2 A l.length xs ∧ Cells 2 (CfAt F w) l xs
def PCfAt (F : Nat → Prop) (w : World) (k : ByteArray × List E) (cs : List Value) : Prop := ∃ A c, cs = [.string k.1, .slice A k.2.length c] ∧ PPathAt F w k.2 A c
def PCfsAt (F : Nat → Prop) (w : World) (l : List (ByteArray × List E)) (A : Option Addr) (c : Nat) : Prop := l.length * 40 ≤ R47 ∧ l.length ≤ c ∧ c ≤ maxLen ∧ ∃ xs, Row F w 2 A l.length xs ∧ Cells 2 (PCfAt F w) l xs
section
variable {F G : Nat → Prop} {w w' : World} {A : Option Addr} {c : Nat}
theorem CfAt.keeps {k : ByteArray × List REl} {cs : List Value} (h : CfAt F w k cs) (hk : Keeps F w w') : CfAt F w' k cs := by
 obtain ⟨A, c, e, h⟩ := h
 exact ⟨A, c, e, h.keeps hk⟩
theorem CfAt.mono {k : ByteArray × List REl} {cs : List Value} (h : CfAt F w k cs) (hk : ∀ b, F b → G b) : CfAt G w k cs := by
 obtain ⟨A, c, e, h⟩ := h
 exact ⟨A, c, e, h.mono hk⟩
theorem PCfAt.keeps {k : ByteArray × List E} {cs : List Value} (h : PCfAt F w k cs) (hk : Keeps F w w') : PCfAt F w' k cs := by
 obtain ⟨A, c, e, h⟩ := h
 exact ⟨A, c, e, h.keeps hk⟩
theorem PCfAt.mono {k : ByteArray × List E} {cs : List Value} (h : PCfAt F w k cs) (hk : ∀ b, F b → G b) : PCfAt G w k cs := by
 obtain ⟨A, c, e, h⟩ := h
 exact ⟨A, c, e, h.mono hk⟩
theorem CfsAt.at_ {l : List (ByteArray × List REl)} (h : CfsAt (Old w) w l A c) (hb : Below w.heap.size w w') : CfsAt (Old w') w' l A c := by
 obtain ⟨h1, h2, h3, xs, h4, h5⟩ := h
 have k : Keeps (Old w) w w' := Keeps.below hb fun _ h => h
 exact ⟨h1, h2, h3, xs, (h4.keeps k).mono fun _ h => Nat.lt_of_lt_of_le h hb.size, h5.mono fun _ _ h => (h.keeps k).mono fun _ h => Nat.lt_of_lt_of_le h hb.size⟩
theorem PCfsAt.at_ {l : List (ByteArray × List E)} (h : PCfsAt (Old w) w l A c) (hb : Below w.heap.size w w') : PCfsAt (Old w') w' l A c := by
 obtain ⟨h1, h2, h3, xs, h4, h5⟩ := h
 have k : Keeps (Old w) w w' := Keeps.below hb fun _ h => h
 exact ⟨h1, h2, h3, xs, (h4.keeps k).mono fun _ h => Nat.lt_of_lt_of_le h hb.size, h5.mono fun _ _ h => (h.keeps k).mono fun _ h => Nat.lt_of_lt_of_le h hb.size⟩
end
def cfP (k : ByteArray × List REl) : ByteArray × List E := (k.1, pel k.2)
def cfPaths (l : List (ByteArray × List REl)) : List (List REl) := l.map Prod.snd

theorem pcf_info : (Tryz.prog.info? 223).map (fun i => (i.zero, i.size, i.bytes)) = some (some (.agg #[.string ⟨#[]⟩, .slice none 0 0]), 2, 40) := by kernel_rfl

def TCInv (w : World) (l : List (ByteArray × List REl)) (s3 s9 : Value) (W : World) : Prop :=
 ∃ (k : Nat) (us : List Value), s9 = .int .i64 (k : Int) ∧ k ≤ l.length ∧ W.ownsRow w.heap.size 223 2 s3 k us ∧ Cells 2 (PCfAt (FrX w.heap.size W s3) W) ((l.take k).map cfP) us ∧ Below w.heap.size w W

def TCS (a h : Nat) (c0 c1 : Value) (W : World) : Prop := W.cell? ⟨h, 0, none⟩ = some c0 ∧ W.cell? ⟨h, 1, none⟩ = some c1 ∧ a = a

set_option maxRecDepth 100000 in
set_option maxHeartbeats 8000000 in
theorem toConflicts_calls {l : List (ByteArray × List REl)} {A : Option Addr} {c : Nat} {w : World} (h : CfsAt (Old w) w l A c) : Calls Tryz.prog 80 #[.slice A l.length c] w
  (fun en w' => ∃ B d, en = .returned (.slice B l.length d) ∧ PCfsAt (Fr w.heap.size w') w' (l.map cfP) B d ∧ Below w.heap.size w w') := by
 obtain ⟨h1, h2, h3, xs, h4, h5⟩ := h
 have h1' : l.length * 40 ≤ 140737488351232 := h1
 have H7 := hide (And.intro h4 h5)
 obtain ⟨i9, hi9, hz9, hs9, hb9⟩ := info_parts pcf_info
 clear h1 h4 h5
 go_enter Tryz.func80, Tryz.ntmps80
 go_wp2_with fail
 have hb0 : Below w.heap.size w (w.alloc (.cells #[] 223)) := (Below.refl _ _).alloc (Nat.le_refl _) _
 have hown0 := World.ownsRow_lit (base := w.heap.size) (e := 223) (size := 2) w #[] 0 (by simp) (by simp [maxLen]) (by simp)
 have H0 := hide (And.intro hb0 hown0)
 clear hb0 hown0
 go_loopw [3, 9] (fun s3 s9 W => TCInv w l s3 s9 W) (fun _ s _ => l.length - (intOf s).toNat)
 case atStart => exact ⟨0, [], rfl, Nat.zero_le _, H0.out.2, Cells.nil_, H0.out.1⟩
 case round =>
  obtain ⟨k, us, rfl, hk, hown, hus, hb⟩ := hrel
  by_cases hlt : k < l.length
  ·have hki0 : (0 : Int) ≤ (k : Int) := Int.natCast_nonneg _
   have hki1 : (k : Int) < (l.length : Int) := by omega
   have hx := H7.out.2.at_ hlt
   have hsn : (l.take (k + 1)).map cfP = (l.take k).map cfP ++ [cfP l[k]] := by rw [List.take_succ_eq_append_getElem hlt, List.map_append]; rfl
   generalize l[k] = fx at *
   generalize hcs : (xs.drop (k * 2)).take 2 = fcs at hx
   obtain ⟨PA, pc, rfl, hp⟩ := hx
   obtain ⟨rb, ro, rfl, hF, hc⟩ := rown_at H7.out.1 hlt hcs
   have ec := (bcell hb).1
   have q0 := (ec _ _ hF).trans (hc 0 _ rfl)
   have q1 := (ec _ _ hF).trans (hc 1 _ rfl)
   rw [Nat.add_zero] at q0
   have hrb : rb < w.heap.size := hF
   have HP := hide fun (W : World) (hb : Below w.heap.size w W) => toPath_calls (hp.at_ hb)
   have Hq := hide (And.intro hown (And.intro hus (And.intro hb hsn)))
   have hwe : w.heap.size ≤ wr.heap.size := hb.size
   clear hown hus hb hsn hp hcs hc ec hF
   obtain ⟨wo, hwo⟩ : ∃ W, W = wr := ⟨_, rfl⟩
   subst hwo
   obtain ⟨pn, hpn⟩ : ∃ pn, fx.2.length = pn := ⟨_, rfl⟩
   have hpn2 : (pel fx.2).length = pn := by rw [pel_length, hpn]
   have Hpn := hide hpn2
   rw [hpn] at HP q1
   clear hpn hpn2
   go_upto_region 5 with fail
   have hbA : Below wo.heap.size wo (wo.alloc (.cells #[.string fx.1, .slice PA pn pc] 140)) := (Below.refl _ _).alloc (Nat.le_refl _) _
   have hX := Bk.new wo 140 #[.string fx.1, .slice PA pn pc]
   clear q0 q1
   generalize hw1 : World.alloc wo _ = w1 at hbA hX ⊢
   have hsz1 : w1.heap.size = wo.heap.size + 1 := by rw [← hw1, World.size_alloc]
   have x0 := hX.cell 0
   have x1 := hX.cell 1
   simp at x0 x1
   obtain ⟨S, hS⟩ : ∃ S, TCS 0 wo.heap.size (.string fx.1) (.slice PA pn pc) = S := ⟨_, rfl⟩
   have hS0 : S w1.drew := by rw [← hS]; exact ⟨x0, x1, rfl⟩
   have H1 := hide hbA
   clear hw1 hbA hX
   refine wp_region_head 8 S (by rfl) (by kernel_rfl) ?_
   have hX := hide (show ∀ W : World, S W → TCS 0 wo.heap.size (.string fx.1) (.slice PA pn pc) W from fun W hSw => by rw [← hS] at hSw; exact hSw)
   iterate 5
    refine HT.nx (v := ?_) rfl (by kernel_rfl) (fun _ _ _ h => h) (Or.inl ⟨by rfl, ?_⟩) ‹_› ?_
    rotate_left
    ·intro W hSw; obtain ⟨s0, s1, -⟩ := hX.out W hSw; go_simp; with_reducible rfl
    simp only [Act.put, zzA, zzZ, zzS]
   clear hX
   refine HT.one 5 rfl (by kernel_rfl) (by rfl) (fun K hK => ?_)
   go_simp
   have hbw1 : Below w.heap.size w w1.drew := below_drew (Hq.out.2.2.1.trans (H1.out.mono Hq.out.2.2.1.size))
   refine (HP.out _ hbw1).mono ?_
   rintro en w2 ⟨A2, c2, rfl, hpp, hb2⟩
   rw [Hpn.out]
   have hb2' : Below w1.heap.size w1 w2 := below_drew' hb2
   have hbo2 : Below wo.heap.size wo w2 := H1.out.trans (hb2'.mono (by omega))
   have hS2 : S w2 := by rw [← hS]; exact ⟨((bcell hb2').1 _ _ (by omega)).trans x0, ((bcell hb2').1 _ _ (by omega)).trans x1, rfl⟩
   have hpc : PCfAt (Fr wo.heap.size w2) w2 (cfP fx) [.string fx.1, .slice A2 pn c2] := ⟨A2, c2, by show ([.string fx.1, .slice A2 pn c2] : List Value) = [.string fx.1, .slice A2 (pel fx.2).length c2]; rw [Hpn.out], hpp.mono fun b hb => ⟨by have h1 := hb.1; have h2 : w1.drew.heap.size = w1.heap.size := rfl; omega, hb.2⟩⟩
   have H2 := hide (And.intro hpc hbo2)
   have H2sz : w1.heap.size ≤ w2.heap.size := hb2'.size
   have hs0 : w.heap.size ≤ w2.heap.size := Nat.le_trans hwe hbo2.size
   clear hpp hb2 hb2' hbo2 hpc HP H1 hbw1
   go_simp
   refine hK.out _ _ hS2 ?_
   clear hK K
   refine HT.take 6 (v := ?_) rfl (by kernel_rfl) (fun _ _ _ h => h) (Or.inl ⟨by rfl, ?_⟩) ‹_› ?_
   rotate_left
   ·intro W hSw; go_simp; with_reducible rfl
   simp only [Act.put, zzA, zzZ, zzS]
   refine HT.one 7 rfl (by kernel_rfl) (by rfl) (fun K hK => ?_)
   go_simp
   have hS3 : S (w2.alloc (.cells #[.string fx.1, .slice A2 pn c2] 223)) := by
    have q := (bcell ((Below.refl w2.heap.size w2).alloc (Nat.le_refl _) (.cells #[.string fx.1, .slice A2 pn c2] 223))).1
    have q2 : wo.heap.size < w2.heap.size := Nat.lt_of_lt_of_le (by omega) H2sz
    rw [← hS] at hS2 ⊢
    exact ⟨(q _ _ q2).trans hS2.1, (q _ _ q2).trans hS2.2.1, rfl⟩
   refine hK.out _ _ hS3 ?_
   clear hK K
   refine HT.done (by kernel_rfl) ?_
   simp only [List.drop_succ_cons, List.drop_zero]
   clear hS0 hS2 hS3 hS x0 x1 H2sz
   obtain ⟨oA, oc, rfl, _, _⟩ := own_form Hq.out.1
   go_wp2_with (at_builtin; go_loud (refine wpList_append_row _ rfl (.tmp 13) (.tmp 20) 142 rfl w.heap.size 223 i9 _ 2 40 Tryz.underlying142 hi9 hz9 hs9 hb9 rfl (by omega) _ k us rfl ((ownsRow_below Hq.out.1 H2.out.2 (Nat.le_refl _)).alloc _) (fun _ => True) (some ⟨w2.heap.size, 0, none⟩) 1 1 [.string fx.1, .slice A2 pn c2] rfl (Row.of_bkp (Bk.new w2 223 [.string fx.1, .slice A2 pn c2].toArray) rfl trivial) (by simp [Value.oneCell']) (by omega) (by omega) (by rw [World.size_alloc]; omega) ?_))
   intro out' w3 hown3 hg3 hat3
   have hcs := cells_stepp (Q := fun F w a cs => PCfAt F w a cs) (a := cfP fx) (fun h k => h.keeps k) (fun h k => h.mono k) Hq.out.1 Hq.out.2.1 Hq.out.2.2.1.size H2.out.1 rfl H2.out.2 hg3 (by rw [World.size_alloc]; exact hat3)
   have hlo := Hq.out.1.lt
   have hbf : Below w.heap.size w w3 := ((Hq.out.2.2.1.trans (H2.out.2.mono Hq.out.2.2.1.size)).alloc hs0 _).grown hg3 (by rw [World.size_alloc]; omega) fun k e => (hlo k e).1
   have Hfin := hide (And.intro hown3 (And.intro hcs (And.intro hbf Hq.out.2.2.2)))
   obtain ⟨nA, nc, rfl, _, _⟩ := own_form hown3
   clear hown3 hg3 hat3 hcs hlo hbf H2 Hq hs0
   go_wp2_with fail
   exact ⟨⟨k + 1, _, by go_num, by omega, Hfin.out.1, by rw [Hfin.out.2.2.2]; exact Hfin.out.2.1.1, Hfin.out.2.2.1⟩, by simp [intOf]; omega⟩
  ·have hke : k = l.length := by omega
   subst hke
   have hki1 : ¬ ((l.length : Nat) : Int) < (l.length : Int) := by omega
   rw [List.take_of_length_le (Nat.le_refl _)] at hus
   obtain ⟨oA, oc, rfl, hc1, hc2⟩ := own_form hown
   have hlt := hown.lt
   have hfin : PCfsAt (Fr w.heap.size wr) wr (l.map cfP) oA oc := ⟨by rw [List.length_map]; unfold R47; omega, by rw [List.length_map]; exact hc1, hc2, us, by rw [List.length_map]; exact Row.of_own hown hlt, hus.mono fun a cs h => h.mono fun b hb => ⟨hb.1, hb.2.1⟩⟩
   have H3 := hide (And.intro hb hfin)
   clear hb hown hus hlt hc1 hc2 hfin
   go_wp2
   go_ret
   exact ⟨oA, oc, rfl, H3.out.2, H3.out.1⟩

def TOInv (w : World) (ps : List (List E)) (s9 : Value) (W : World) : Prop :=
 ∃ (k : Nat) (D : Nat → Prop), s9 = .int .i64 (k : Int) ∧ k ≤ ps.length ∧ SetM (fun b => b < W.heap.size ∧ ¬ D b) W D w.heap.size (setP (ps.take k)) ∧ (∀ b, D b → w.heap.size ≤ b ∧ b < W.heap.size) ∧ Below w.heap.size w W

set_option maxRecDepth 100000 in
set_option maxHeartbeats 8000000 in
theorem toSetC_calls {l : List (ByteArray × List E)} {A : Option Addr} {c : Nat} {w : World} (h : PCfsAt (Old w) w l A c) (hok : ∀ p ∈ l.map Prod.snd, POk p) (hn : l.length ≤ N38) : Calls Tryz.prog 81 #[.slice A l.length c] w
  (fun en w' => en = .returned (.pointer (some ⟨w.heap.size, 0, none⟩)) ∧ SetR (Old w') w' w.heap.size (setP (l.map Prod.snd)) ∧ Below w.heap.size w w') := by
 obtain ⟨h1, h2, h3, xs, h4, h5⟩ := h
 have hn' : l.length ≤ 274877906944 := hn
 have H7 := hide (And.intro h4 h5)
 have Hok := hide hok
 have hpl : (l.map Prod.snd).length = l.length := List.length_map _
 clear h1 h4 h5 hok hn
 go_enter Tryz.func81, Tryz.ntmps81
 go_wp2_with fail
 refine (newSet_calls w).mono ?_
 rintro en w0 ⟨rfl, hw0⟩
 have hb0 : Below w.heap.size w w0 := by rw [hw0]; exact (Below.refl _ _).alloc (Nat.le_refl _) _
 have hs0 : SetM (fun b => b < w0.heap.size ∧ ¬ b = w.heap.size) w0 (fun b => b = w.heap.size) w.heap.size (setP ((l.map Prod.snd).take 0)) := by
  rw [hw0]
  exact .mk (Ds := fun _ _ => False) (G := fun _ => 0) (xs := []) (ys := []) rfl (Bk.new w _ _) (by simp) (by simp) (World.ownsRow_nil _ _ _ _) (World.ownsRow_nil _ _ _ _) (by simp [Value.ownBlock]) (by simp [Value.ownBlock]) Cells.nil_ rfl (by simp) (by simp) (by simp) (by simp)
 have hsz0 : w0.heap.size = w.heap.size + 1 := by rw [hw0, World.size_alloc]
 have H0 := hide (And.intro hb0 hs0)
 clear hw0 hb0 hs0
 go_wp2_with fail
 go_loopw [9] (fun s9 W => TOInv w (l.map Prod.snd) s9 W) (fun s _ => l.length - (intOf s).toNat)
 case atStart => exact ⟨0, fun b => b = w.heap.size, rfl, Nat.zero_le _, H0.out.2, fun b hb => by omega, H0.out.1⟩
 case round =>
  obtain ⟨k, D, rfl, hk, hset, hD, hb⟩ := hrel
  rw [hpl] at hk
  by_cases hlt : k < l.length
  ·have hki0 : (0 : Int) ≤ (k : Int) := Int.natCast_nonneg _
   have hki1 : (k : Int) < (l.length : Int) := by omega
   have hx := H7.out.2.at_ hlt
   have hsn : (l.map Prod.snd).take (k + 1) = (l.map Prod.snd).take k ++ [(l[k]).2] := by rw [List.take_succ_eq_append_getElem (by rw [hpl]; exact hlt), List.getElem_map]
   have hpo : POk (l[k]).2 := Hok.out _ (List.mem_map.2 ⟨_, List.getElem_mem _, rfl⟩)
   generalize l[k] = fx at *
   generalize hcs : (xs.drop (k * 2)).take 2 = fcs at hx
   obtain ⟨B, d, rfl, hp⟩ := hx
   obtain ⟨rb, ro, rfl, hF, hc⟩ := rown_at H7.out.1 hlt hcs
   have q0 := ((bcell hb).1 _ _ hF).trans (hc 0 _ rfl)
   have q1 := ((bcell hb).1 _ _ hF).trans (hc 1 _ rfl)
   rw [Nat.add_zero] at q0
   have hrb : rb < w.heap.size := hF
   have hok1 : ∀ p ∈ (l.map Prod.snd).take k, POk p := fun p hp => Hok.out p (List.mem_of_mem_take hp)
   have hwl := And.intro (setP_wf hok1) ((setP_le hok1).mono (n' := k) (by rw [List.length_take]; omega))
   have Hq := hide (And.intro hset (And.intro hD (And.intro hb (And.intro hsn (And.intro hpo (And.intro hwl hp))))))
   have hwl0 : w.heap.size < wr.heap.size := by have := (hD w.heap.size hset.own.1).2; exact this
   clear hset hD hb hsn hpo hp hcs hc hF hok1 hwl
   obtain ⟨wo, hwo⟩ : ∃ W, W = wr := ⟨_, rfl⟩
   subst hwo
   go_upto_region 5 with fail
   have hbA : Below wo.heap.size wo (wo.alloc (.cells #[.string fx.1, .slice B fx.2.length d] 223)) := (Below.refl _ _).alloc (Nat.le_refl _) _
   have hX := Bk.new wo 223 #[.string fx.1, .slice B fx.2.length d]
   clear q0 q1
   generalize hw1 : World.alloc wo _ = w1 at hbA hX ⊢
   have x0 := hX.cell 0
   have x1 := hX.cell 1
   have hxl := hX.lt
   simp at x0 x1
   have hset1 : SetM (fun b => b < w1.heap.size ∧ ¬ D b) w1 D w.heap.size (setP ((l.map Prod.snd).take k)) :=
    (Hq.out.1.keeps (Keeps.below hbA fun b hb => (Hq.out.2.1 b hb).2) (Keeps.below hbA fun b hb => hb.1)).mono fun b hb => ⟨Nat.lt_of_lt_of_le hb.1 hbA.size, hb.2⟩
   have hb1 : Below w.heap.size w w1 := Hq.out.2.2.1.trans (hbA.mono Hq.out.2.2.1.size)
   have hp2 : PPathAt (fun b => b < w1.heap.size ∧ ¬ D b) w1 fx.2 B d := (Hq.out.2.2.2.2.2.2.keeps (Keeps.below hb1 fun _ h => h)).mono fun b hb => ⟨Nat.lt_of_lt_of_le hb hb1.size, fun hd => by have h1 := (Hq.out.2.1 b hd).1; have hb : b < w.heap.size := hb; omega⟩
   have HI := hide (setInsert_calls hset1 (fun b hb => ⟨hb.1, hb.2⟩) (fun b hb => by have := (Hq.out.2.1 b hb).2; have := hbA.size; omega) Hq.out.2.2.2.2.2.1.1 Hq.out.2.2.2.2.2.1.2 (by unfold R47; omega) hp2 Hq.out.2.2.2.2.1)
   have H1 := hide (And.intro hb1 hbA)
   clear hp2 hset1 hb1 hw1 hbA hX
   go_wp2_with fail
   refine HI.out.mono ?_
   rintro en w2 ⟨rfl, D', hset2, hD2, ho, htp, hou, hsz, hfr⟩
   have hset3 : SetM (fun b => b < w2.heap.size ∧ ¬ D' b) w2 D' w.heap.size (setP ((l.map Prod.snd).take (k + 1))) := by
    rw [Hq.out.2.2.2.1, setP_snoc]
    refine hset2.mono fun b hb => ⟨Nat.lt_of_lt_of_le hb.1 hsz, fun hd => ?_⟩
    rcases (hD2 b hd).1 with h1 | h1
    ·exact hb.2 h1
    ·have := hb.1; omega
   have hDf : ∀ b, D' b → w.heap.size ≤ b ∧ b < w2.heap.size := fun b hd => ⟨by
    rcases (hD2 b hd).1 with h1 | h1
    ·exact (Hq.out.2.1 b h1).1
    ·have := H1.out.1.size; omega, (hD2 b hd).2⟩
   have hbf : Below w.heap.size w w2 := by
    have h1 := H1.out.1
    refine ⟨ho.trans h1.os, htp.trans h1.tape, hou.trans h1.output, Nat.le_trans h1.size hsz, fun b hb => ?_⟩
    rw [hfr b (by have := h1.size; omega) fun hd => by have := (Hq.out.2.1 b hd).1; omega]
    exact h1.block b hb
   have Hfin := hide (And.intro hset3 (And.intro hDf hbf))
   clear hset2 hD2 ho htp hou hfr hset3 hDf hbf x0 x1
   go_wp2_with fail
   exact ⟨⟨k + 1, D', by go_num, by rw [hpl]; omega, Hfin.out.1, Hfin.out.2.1, Hfin.out.2.2⟩, by simp [intOf]; omega⟩
  ·have hke : k = l.length := by omega
   subst hke
   have hki1 : ¬ ((l.length : Nat) : Int) < (l.length : Int) := by omega
   rw [List.take_of_length_le (by rw [hpl]; exact Nat.le_refl _)] at hset
   have H3 := hide (And.intro (hset.read (G := Old wr) (fun b hb => hb.1) fun b hb => (hD b hb).2) hb)
   clear hb hset hD hlt
   go_wp2
   go_ret
   exact ⟨rfl, H3.out.1, H3.out.2⟩

end Go.Proofs.YtbicoknghdgahaaGreat

namespace Go.Proofs.YtbicoknghdgahaaGreat
open Go.RowKit
attribute [local go_sem] run_store_float

theorem cf_pels (l : List (ByteArray × List REl)) : (l.map cfP).map Prod.snd = pels (cfPaths l) := by simp [cfP, cfPaths, pels]
theorem cf_ht {l : List (ByteArray × List REl)} {F : Nat → Prop} {A : Option Addr} {c : Nat} {w : World} (h : CfsAt F w l A c) {N : Nat} (hN : N = 837723144946 + 1) : (setP (pels (cfPaths l))).Ht N := by
 subst hN
 refine setP_ht fun p hp => ?_
 obtain ⟨q, hq, rfl⟩ := List.mem_map.1 hp
 obtain ⟨k, hk, rfl⟩ := List.mem_map.1 hq
 obtain ⟨i, hi, rfl⟩ := List.getElem_of_mem hk
 obtain ⟨h1, h2, h3, xs, h4, h5⟩ := h
 obtain ⟨B, d, -, h6, -⟩ := h5.at_ hi
 rw [pel_length]
 unfold R47 at h6
 omega
theorem ht_some' : ∃ N : Nat, N = 837723144946 + 1 ∧ N * 168 ≤ R47 := ⟨_, rfl, by unfold R47; omega⟩

set_option maxRecDepth 100000 in
set_option maxHeartbeats 4000000 in
theorem implConflictSet_calls {l : List (ByteArray × List REl)} {A : Option Addr} {c : Nat} {w : World} (h : CfsAt (Old w) w l A c) (hok : ∀ p ∈ pels (cfPaths l), POk p) (hn : l.length ≤ N38) :
  Calls Tryz.prog 26 #[.slice A l.length c] w (GivesPaths ((setP (pels (cfPaths l))).paths.map (List.map E.toREl)) w) := by
 obtain ⟨N, hN, hN47⟩ := ht_some'
 have HT := hide (toConflicts_calls h)
 have HS := hide fun (W : World) (B : Option Addr) (d : Nat) (hp : PCfsAt (Old W) W (l.map cfP) B d) => toSetC_calls hp (by rw [cf_pels]; exact hok) (by rw [List.length_map]; exact hn)
 have hcount : (setP (pels (cfPaths l))).paths.length * 24 ≤ R47 := by
  have q1 := setP_count (pels (cfPaths l))
  have q2 : (pels (cfPaths l)).length = l.length := by simp [pels, cfPaths]
  unfold N38 at hn
  unfold R47
  omega
 have Hn := hide (And.intro (cf_ht h hN) (And.intro hN47 hcount))
 have Hlm := hide (show (l.map cfP).length = l.length from List.length_map _)
 rw [cf_pels] at HS
 rw [Hlm.out] at HS
 clear h hok hn hN hN47 hcount
 generalize setP (pels (cfPaths l)) = s at *
 generalize l.length = n at *
 go_enter Tryz.func26, Tryz.ntmps26
 go_wp2_with fail
 refine HT.out.mono ?_
 rintro e w1 ⟨B, d, rfl, hp, hb⟩
 have HS1 := hide (HS.out w1 B d (by
  obtain ⟨h1, h2, h3, xs, h4, h5⟩ := hp
  exact ⟨h1, h2, h3, xs, h4.mono fun b hb => hb.2, h5.mono fun _ _ h => h.mono fun b hb => hb.2⟩))
 have Hb := hide hb
 clear hp hb HT HS
 go_wp2_with fail
 refine HS1.out.mono ?_
 rintro e w2 ⟨rfl, hs2, hb2⟩
 have HF := hide (fromSet_calls hs2 Hn.out.1 Hn.out.2.1 Hn.out.2.2)
 have Hb2 := hide (Hb.out.trans (hb2.mono Hb.out.size))
 clear hs2 hb2 HS1 Hb Hn
 generalize s.paths.map (List.map E.toREl) = rs at *
 go_wp2_with fail
 refine HF.out.mono ?_
 rintro e w3 ⟨B3, d3, rfl, hp, hb3⟩
 have Hf := hide (And.intro (hp.mono fun b hb => ⟨Nat.le_trans Hb2.out.size hb.1, hb.2⟩ : PathsAt (Fr w.heap.size w3) w3 rs B3 d3) (Hb2.out.trans (hb3.mono Hb2.out.size)))
 clear hp hb3
 go_wp2
 go_ret
 exact ⟨B3, d3, rfl, Hf.out.1, Hf.out.2⟩

def SCInv (w : World) (l : List (ByteArray × List REl)) (s3 s8 : Value) (W : World) : Prop :=
 ∃ (k : Nat) (us : List Value), s8 = .int .i64 (k : Int) ∧ k ≤ l.length ∧ W.ownsRow w.heap.size 22 1 s3 k us ∧ Cells 1 (PQ (Old w) W) (cfPaths (l.take k)) us ∧ Below w.heap.size w W

set_option maxRecDepth 100000 in
set_option maxHeartbeats 8000000 in
theorem specConflictSet_calls {l : List (ByteArray × List REl)} {A : Option Addr} {c : Nat} {w : World} (h : CfsAt (Old w) w l A c) (hok : ∀ p ∈ pels (cfPaths l), POk p) :
  Calls Tryz.prog 27 #[.slice A l.length c] w (GivesPaths ((specS (pels (cfPaths l))).map (List.map E.toREl)) w) := by
 obtain ⟨h1, h2, h3, xs, h4, h5⟩ := h
 have h1' : l.length * 40 ≤ 140737488351232 := h1
 obtain ⟨i9, hi9, hz9, hs9, hb9⟩ := info_parts paths_info
 have H7 := hide (And.intro h4 (And.intro h5 hok))
 clear h1 h4 h5 hok
 go_enter Tryz.func27, Tryz.ntmps27
 go_wp2_with fail
 go_loopw [3, 8] (fun s3 s8 W => SCInv w l s3 s8 W) (fun _ s _ => l.length - (intOf s).toNat)
 case atStart => exact ⟨0, [], rfl, Nat.zero_le _, World.ownsRow_nil _ _ _ _, Cells.nil_, Below.refl _ _⟩
 case round =>
  obtain ⟨k, us, rfl, hk, hown, hus, hb⟩ := hrel
  by_cases hlt : k < l.length
  ·have hki0 : (0 : Int) ≤ (k : Int) := Int.natCast_nonneg _
   have hki1 : (k : Int) < (l.length : Int) := by omega
   have hx := H7.out.2.1.at_ hlt
   have hsn : cfPaths (l.take (k + 1)) = cfPaths (l.take k) ++ [(l[k]).2] := by unfold cfPaths; rw [List.take_succ_eq_append_getElem hlt, List.map_append]; rfl
   generalize l[k] = fx at *
   generalize hcs : (xs.drop (k * 2)).take 2 = fcs at hx
   obtain ⟨PA, pc, rfl, hp⟩ := hx
   obtain ⟨rb, ro, rfl, hF, hc⟩ := rown_at H7.out.1 hlt hcs
   have ec := (bcell hb).1
   have q0 := (ec _ _ hF).trans (hc 0 _ rfl)
   have q1 := (ec _ _ hF).trans (hc 1 _ rfl)
   rw [Nat.add_zero] at q0
   have hrb : rb < w.heap.size := hF
   have Hq := hide (And.intro hown (And.intro hus (And.intro hb (And.intro hsn hp))))
   have hwe : w.heap.size ≤ wr.heap.size := hb.size
   clear hown hus hb hsn hp hcs hc ec hF
   obtain ⟨wo, hwo⟩ : ∃ W, W = wr := ⟨_, rfl⟩
   subst hwo
   obtain ⟨pn, hpn⟩ : ∃ pn, fx.2.length = pn := ⟨_, rfl⟩
   have Hpn := hide hpn
   rw [hpn] at q1
   clear hpn
   obtain ⟨oA, oc, rfl, _, _⟩ := own_form Hq.out.1
   go_upto_region 5 with fail
   have hbA : Below wo.heap.size wo (wo.alloc (.cells #[.string fx.1, .slice PA pn pc] 140)) := (Below.refl _ _).alloc (Nat.le_refl _) _
   have hX := Bk.new wo 140 #[.string fx.1, .slice PA pn pc]
   clear q0 q1
   generalize hw1 : World.alloc wo _ = w1 at hbA hX ⊢
   have hsl : wo.heap.size < w1.heap.size := by rw [← hw1, World.size_alloc]; omega
   have x0 := hX.cell 0
   have x1 := hX.cell 1
   simp at x0 x1
   have H1 := hide hbA
   clear hw1 hbA hX
   go_wp2_with (at_builtin; go_loud (refine wpList_append_row _ rfl (.tmp 12) (.tmp 15) 36 rfl w.heap.size 22 i9 _ 1 24 Tryz.underlying36 hi9 hz9 hs9 hb9 rfl (by omega) (.slice oA k oc) k us rfl ((ownsRow_below Hq.out.1 H1.out (Nat.le_refl _)).alloc _) (fun _ => True) (some ⟨w1.heap.size, 0, none⟩) 1 1 [.slice PA pn pc] rfl (Row.of_bkp (Bk.new w1 22 ([.slice PA pn pc] : List Value).toArray) rfl trivial) (by simp [Value.oneCell']) (by omega) (by omega) (by rw [World.size_alloc]; omega) ?_))
   intro out' w3 hown3 hg3 hat3
   have hlo := Hq.out.1.lt
   have hbx : Below wo.heap.size wo (w1.alloc (.cells #[.slice PA pn pc] 22)) := H1.out.alloc (by omega) _
   have hbw : Below w.heap.size w (w1.alloc (.cells #[.slice PA pn pc] 22)) := Hq.out.2.2.1.trans (hbx.mono hwe)
   have hkA : Keeps (Old w) wo (w1.alloc (.cells #[.slice PA pn pc] 22)) := Keeps.below hbx fun b hb => by have hb : b < w.heap.size := hb; omega
   have hst := old_step (w := w) (Q := PQ) (add := [fx.2]) (fun h k => h.keeps k) (Hq.out.2.1.mono fun _ _ h => PQ.keeps h hkA) hbw (fun b hb => (hlo b hb).1) hg3 (Cells.one ⟨PA, pc, by rw [Hpn.out], Hq.out.2.2.2.2.keeps (Keeps.below hbw fun _ h => h)⟩ rfl)
   obtain ⟨nA, nc, rfl, _, _⟩ := own_form hown3
   have Hfin := hide (And.intro hown3 (And.intro (show Cells 1 (PQ (Old w) w3) (cfPaths (l.take (k + 1))) _ from by rw [Hq.out.2.2.2.1]; exact hst.1) hst.2))
   clear hown3 hg3 hat3 hlo hbx hbw hkA hst Hq H1 x0 x1
   go_wp2_with fail
   exact ⟨⟨k + 1, _, by go_num, by omega, Hfin.out.1, Hfin.out.2.1, Hfin.out.2.2⟩, by simp [intOf]; omega⟩
  ·have hke : k = l.length := by omega
   subst hke
   have hki1 : ¬ ((l.length : Nat) : Int) < (l.length : Int) := by omega
   rw [List.take_of_length_le (Nat.le_refl _)] at hus
   obtain ⟨oA, oc, rfl, hc1, hc2⟩ := own_form hown
   have hlt2 := hown.lt
   have hcl : (cfPaths l).length = l.length := List.length_map _
   have hfin : PathsAt (Old wr) wr (cfPaths l) oA oc := ⟨by rw [hcl]; unfold R47; omega, by rw [hcl]; exact hc1, hc2, us, by rw [hcl]; exact Row.of_own hown fun b hb => (hlt2 b hb).2, hus.mono fun a cs h => PQ.mono h fun b hb' => Nat.lt_of_lt_of_le hb' hb.size⟩
   have HS := hide (setOf_calls hfin H7.out.2.2)
   rw [hcl] at HS
   have Hb := hide hb
   clear hb hown hus hlt2 hc1 hc2 hfin hcl
   generalize (specS (pels (cfPaths l))).map (List.map E.toREl) = rs at *
   go_wp2_with fail
   refine HS.out.mono ?_
   rintro en w2 ⟨B2, d2, rfl, hp2, hb2⟩
   have Hf := hide (And.intro (hp2.mono fun b hb => ⟨Nat.le_trans Hb.out.size hb.1, hb.2⟩ : PathsAt (Fr w.heap.size w2) w2 rs B2 d2) (Hb.out.trans (hb2.mono Hb.out.size)))
   clear hp2 hb2
   go_wp2
   go_ret
   exact ⟨B2, d2, rfl, Hf.out.1, Hf.out.2⟩

def TMInv (w : World) (l : List (ByteArray × List REl)) (s7 : Value) (W : World) : Prop :=
 ∃ k : Nat, s7 = .int .i64 (k : Int) ∧ k ≤ l.length ∧ (∀ p ∈ cfPaths (l.take k), POk (pel p)) ∧ Below w.heap.size w W

set_option maxRecDepth 100000 in
set_option maxHeartbeats 8000000 in
theorem tameConflicts_calls {l : List (ByteArray × List REl)} {A : Option Addr} {c : Nat} {w : World} (h : CfsAt (Old w) w l A c) :
  Calls Tryz.prog 24 #[.slice A l.length c] w (OrdPost (∀ p ∈ cfPaths l, POk (pel p)) w) := by
 obtain ⟨h1, h2, h3, xs, h4, h5⟩ := h
 have h1' : l.length * 40 ≤ 140737488351232 := h1
 have H7 := hide (And.intro h4 h5)
 clear h1 h4 h5
 go_enter Tryz.func24, Tryz.ntmps24
 go_wp2_with fail
 go_loopw [7] (fun s7 W => TMInv w l s7 W) (fun s _ => l.length - (intOf s).toNat)
 case atStart => exact ⟨0, rfl, Nat.zero_le _, by simp [cfPaths], Below.refl _ _⟩
 case round =>
  obtain ⟨k, rfl, hk, hall, hb⟩ := hrel
  by_cases hlt : k < l.length
  ·have hki0 : (0 : Int) ≤ (k : Int) := Int.natCast_nonneg _
   have hki1 : (k : Int) < (l.length : Int) := by omega
   have hx := H7.out.2.at_ hlt
   have hsn : cfPaths (l.take (k + 1)) = cfPaths (l.take k) ++ [(l[k]).2] := by unfold cfPaths; rw [List.take_succ_eq_append_getElem hlt, List.map_append]; rfl
   generalize l[k] = fx at *
   generalize hcs : (xs.drop (k * 2)).take 2 = fcs at hx
   obtain ⟨PA, pc, rfl, hp⟩ := hx
   obtain ⟨rb, ro, rfl, hF, hc⟩ := rown_at H7.out.1 hlt hcs
   have ec := (bcell hb).1
   have q0 := (ec _ _ hF).trans (hc 0 _ rfl)
   have q1 := (ec _ _ hF).trans (hc 1 _ rfl)
   rw [Nat.add_zero] at q0
   have hrb : rb < w.heap.size := hF
   have Hq := hide (And.intro hall (And.intro hb hsn))
   have HM := hide fun (W : World) (hb : Below w.heap.size w W) => tame_calls (hp.at_ hb)
   have hwe : w.heap.size ≤ wr.heap.size := hb.size
   clear hall hb hsn hp hcs hc ec hF
   obtain ⟨wo, hwo⟩ : ∃ W, W = wr := ⟨_, rfl⟩
   subst hwo
   obtain ⟨pn, hpn⟩ : ∃ pn, fx.2.length = pn := ⟨_, rfl⟩
   rw [hpn] at q1 HM
   clear hpn
   go_upto_region 4 with fail
   have hbA : Below wo.heap.size wo (wo.alloc (.cells #[.string fx.1, .slice PA pn pc] 140)) := (Below.refl _ _).alloc (Nat.le_refl _) _
   have hX := Bk.new wo 140 #[.string fx.1, .slice PA pn pc]
   clear q0 q1
   generalize hw1 : World.alloc wo _ = w1 at hbA hX ⊢
   have x0 := hX.cell 0
   have x1 := hX.cell 1
   simp at x0 x1
   have H1 := hide (Hq.out.2.1.trans (hbA.mono hwe))
   clear hw1 hbA hX
   go_wp2_with fail
   refine (HM.out w1 H1.out).mono ?_
   rintro en w2 ⟨t, rfl, ho, hb2⟩
   have Ho := hide ho
   have H2 := hide (H1.out.trans (hb2.mono H1.out.size))
   clear ho hb2 HM H1 x0 x1
   cases t
   ·go_wp2
    go_ret
    exact ⟨false, rfl, fun h => (by cases h), H2.out⟩
   have hpo : POk (pel fx.2) := Ho.out (by first | trivial | rfl)
   have Hfin := hide (And.intro (show ∀ p ∈ cfPaths (l.take (k + 1)), POk (pel p) from by
    rw [Hq.out.2.2]
    intro p hp
    rcases List.mem_append.1 hp with hp | hp
    ·exact Hq.out.1 p hp
    ·rw [List.mem_singleton.1 hp]; exact hpo) H2.out)
   clear hpo Ho Hq H2
   go_wp2_with fail
   exact ⟨⟨k + 1, by go_num, by omega, Hfin.out.1, Hfin.out.2⟩, by simp [intOf]; omega⟩
  ·have hke : k = l.length := by omega
   subst hke
   have hki1 : ¬ ((l.length : Nat) : Int) < (l.length : Int) := by omega
   rw [List.take_of_length_le (Nat.le_refl _)] at hall
   have H3 := hide (And.intro hall hb)
   clear hall hb
   go_wp2
   go_ret
   exact ⟨true, rfl, fun _ => H3.out.1, H3.out.2⟩

theorem cs_lists {ls : List (List REl)} (h : ∀ p ∈ pels ls, POk p) :
  (∀ p ∈ pels ((setP (pels ls)).paths.map (List.map E.toREl)), POk p) ∧ (∀ p ∈ pels ((specS (pels ls)).map (List.map E.toREl)), POk p) ∧
  ((specS (pels ls)).map (List.map E.toREl)).length = ((setP (pels ls)).paths.map (List.map E.toREl)).length ∧
  peqvs (specS (pels ((setP (pels ls)).paths.map (List.map E.toREl)))) (specS (pels ((specS (pels ls)).map (List.map E.toREl)))) = true := by
 have e1 := pels_back (setP_pws (ls := ls))
 have e2 := pels_back (specS_pws1 h)
 have hs := specS_ok h
 have o1 := paths_pok (setP_wf h)
 have hal := alike_lists o1 hs.1 (made_alike h)
 rw [e1, e2]
 exact ⟨o1, hs.1, by rw [List.length_map, List.length_map]; exact hal.1, hal.2⟩

set_option maxRecDepth 100000 in
set_option maxHeartbeats 8000000 in
theorem conflictSetLaw {l : List (ByteArray × List REl)} {A : Option Addr} {c : Nat} {w : World} (h : CfsAt (Old w) w l A c) :
  Calls Tryz.prog 5 #[.slice A l.length c] w (LawPost w) := by
 have HT := hide (tameConflicts_calls h)
 have HE := hide fun (hok : ∀ p ∈ cfPaths l, POk (pel p)) (hn : l.length ≤ N38) (W : World) (hb : Below w.heap.size w W) => implConflictSet_calls (h.at_ hb) (pels_all hok) hn
 have HS := hide fun (hok : ∀ p ∈ cfPaths l, POk (pel p)) (W : World) (hb : Below w.heap.size w W) => specConflictSet_calls (h.at_ hb) (pels_all hok)
 have HL := hide fun (hok : ∀ p ∈ cfPaths l, POk (pel p)) => cs_lists (pels_all hok)
 clear h
 generalize (setP (pels (cfPaths l))).paths.map (List.map E.toREl) = rs at *
 generalize (specS (pels (cfPaths l))).map (List.map E.toREl) = ss at *
 generalize (∀ p ∈ cfPaths l, POk (pel p)) = P at *
 generalize l.length = n at *
 by_cases hbig : 2147483647 < n
 ·have gi1 : (2147483647 : Int) < (n : Int) := by omega
  go_enter Tryz.func5, Tryz.ntmps5
  go_wp2
  go_ret
  exact ⟨rfl, Below.refl _ _⟩
 have gi1 : ¬ (2147483647 : Int) < (n : Int) := by omega
 have hn38 : n ≤ N38 := by unfold N38; omega
 go_enter Tryz.func5, Tryz.ntmps5
 go_wp2_with fail
 refine HT.out.mono ?_
 rintro e w1 ⟨t, rfl, ho, hb1⟩
 have Ho := hide ho
 have Hb := hide hb1
 clear ho hb1 HT
 cases t
 ·go_wp2
  go_ret
  exact ⟨rfl, Hb.out⟩
 have hok : P := Ho.out (by first | trivial | rfl)
 have HE1 := hide (HE.out hok hn38)
 have HS1 := hide (HS.out hok)
 have HL1 := hide (HL.out hok)
 clear hok Ho HE HS HL
 go_wp2_with fail
 refine (HE1.out w1 Hb.out).mono ?_
 rintro e w2 ⟨A1, c1, rfl, hp1, hb2⟩
 have Hp1 := hide (And.intro (hp1.mono (G := Old w2) fun b hb => hb.2) (Hb.out.trans (hb2.mono Hb.out.size)))
 clear hp1 hb2 HE1
 go_wp2_with fail
 refine (HS1.out w2 Hp1.out.2).mono ?_
 rintro e w3 ⟨A2, c2, rfl, hp2, hb3⟩
 have HQ := hide (lists_calls (Hp1.out.1.at_ hb3) (hp2.mono (G := Old w3) fun b hb => hb.2) HL1.out.1 HL1.out.2.1 HL1.out.2.2.1)
 rw [HL1.out.2.2.2] at HQ
 have H3 := hide (Hp1.out.2.trans (hb3.mono Hp1.out.2.size))
 clear hp2 hb3 HS1 Hp1 HL1
 go_wp2_with fail
 refine HQ.out.mono ?_
 rintro e w4 ⟨rfl, hb4⟩
 have H4 := hide (H3.out.trans (hb4.mono H3.out.size))
 clear hb4 HQ
 go_wp2
 go_ret
 exact ⟨rfl, H4.out⟩

end Go.Proofs.YtbicoknghdgahaaGreat

namespace Go.Proofs.YtbicoknghdgahaaGreat
open Go.RowKit Go.ChangeShapes Go.WideShapes

section
variable {H : Type} {enc : TypeId × Value → H} {w : World}

set_option maxRecDepth 100000 in
theorem open_conflict {fuel : Nat} {cs : List Value} {d : DataW H} {ps : List MemPlace} (h : DataW.trod enc Tryz.prog w 0 (fun _ => true) true fuel 140 cs = some (d, ps)) (hw : Small 140 d) : ∃ k, CfAt (Old w) w k cs := by
 obtain ⟨xs, n, rfl, rfl, hl, hlen, hf⟩ := open_struct (l := [(9, 0, 1), (22, 1, 1)]) Tryz.underlying140 (by kernel_rfl) h
 have hws := hw.struct Tryz.underlying140
 rw [show Tryz.prog.cellsOf 140 = 2 from by kernel_rfl] at hl
 obtain ⟨u0, u1, rfl⟩ : ∃ u0 u1, cs = [u0, u1] := by
  match cs, hl with
  | [u0, u1], _ => exact ⟨u0, u1, rfl⟩
 obtain ⟨y0, y1, rfl⟩ : ∃ y0 y1, xs = [y0, y1] := by
  match xs, hlen with
  | [y0, y1], _ => exact ⟨y0, y1, rfl⟩
 have g0 := hf 0 _ _ _ rfl
 have g1 := hf 1 _ _ _ rfl
 simp only [List.drop_succ_cons, List.drop_zero, List.take_succ_cons, List.take_zero, List.getElem?_cons_succ, List.getElem?_cons_zero] at g0 g1
 have w1 := hws.part 1 (d := y1.1) rfl rfl
 obtain ⟨s0, e0, x0, -⟩ := DataW.trod_string Tryz.underlying9 g0
 obtain ⟨A, l, c, e1, hp⟩ := open_path (d := y1.1) (ps := y1.2) g1 w1
 simp only [List.cons.injEq, and_true] at e0 e1
 subst e0; subst e1
 exact ⟨(s0, l), A, c, rfl, hp⟩

theorem open_conflicts {fuel : Nat} {cs : List Value} {d : DataW H} {ps : List MemPlace} (h : DataW.trod enc Tryz.prog w 0 (fun _ => true) true fuel 42 cs = some (d, ps)) (hw : Small 42 d) :
  ∃ (A : Option Addr) (l : List (ByteArray × List REl)) (c : Nat), cs = [.slice A l.length c] ∧ CfsAt (Old w) w l A c := by
 obtain ⟨LA, len, lc, n', L, rfl, rfl, l1, l2, l3, l4, l5, l6, l7⟩ := open_slice (size := 2) (bytes := 40) Tryz.underlying42 (by kernel_rfl) (by kernel_rfl) (by decide) h hw
 have hall : ∀ i, i < len → ∃ r : ByteArray × List REl, ∀ x, L[i]? = some x → CfAt (Old w) w r x := by
  intro i hi
  obtain ⟨x, hx⟩ : ∃ x, L[i]? = some x := ⟨_, List.getElem?_eq_getElem (by omega)⟩
  obtain ⟨d', p', h8, h9⟩ := l7 i x hx
  obtain ⟨r, hr⟩ := open_conflict h8 h9
  refine ⟨r, fun y hy => ?_⟩
  rw [hx] at hy
  exact Option.some.inj hy ▸ hr
 have : Inhabited (ByteArray × List REl) := ⟨(⟨#[]⟩, [])⟩
 obtain ⟨f, hf'⟩ := Deep.choose_lt hall
 subst l4
 have hll : ((List.range L.length).map f).length = L.length := by simp
 refine ⟨LA, (List.range L.length).map f, lc, by rw [hll], by rw [hll]; exact l3, by rw [hll]; exact l1, l2, L.flatten, by rw [hll]; exact l5, by rw [hll]; exact l5.1, ?_⟩
 intro i r hr
 rw [List.getElem?_map] at hr
 obtain ⟨j, hj, rfl⟩ := Option.map_eq_some_iff.1 hr
 obtain ⟨hj1, hj2⟩ := List.getElem?_eq_some_iff.1 hj
 simp at hj1 hj2
 subst hj2
 have hx : L[i]? = some L[i] := List.getElem?_eq_getElem hj1
 rw [flat_part (by decide) L l6 i _ hx]
 exact hf' i hj1 _ hx

set_option maxRecDepth 100000 in
theorem open_Conflicts {base : Nat} {v : Value} {d : DataW H} {ps : List MemPlace} (h : DataW.Trod enc Tryz.prog w 0 (fun _ => true) true 42 v d ps) (hw : Small 42 d) (hok : Value.okWide Tryz.prog w .any base 42 v) : ∃ A l c, v = .slice A l.length c ∧ CfsAt (Old w) w l A c := by
 obtain ⟨fuel, hf⟩ := h
 obtain ⟨A, l, c, e, hs⟩ := open_conflicts hf hw
 obtain ⟨a, n, m, rfl⟩ := okWide_slice Tryz.underlying42 hok
 simp only [Value.cells, List.cons.injEq, and_true] at e
 exact ⟨A, l, c, e, hs⟩

end
end Go.Proofs.YtbicoknghdgahaaGreat
