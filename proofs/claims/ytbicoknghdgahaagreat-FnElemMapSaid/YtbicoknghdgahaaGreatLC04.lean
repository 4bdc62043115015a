/- Parts: ElemMapI. -/
import Derived.Test.YtbicoknghdgahaaGreatKB14
import Derived.Test.YtbicoknghdgahaaGreatLC03
set_option linter.unusedVariables false
set_option linter.unusedSimpArgs false
namespace Go.Proofs.YtbicoknghdgahaaGreat
open Go.RowKit
attribute [local go_sem] run_store_float

def ValuesAt (F : Nat → Prop) (w : World) (l : List RV) (A : Option Addr) (c : Nat) : Prop := l.length * 88 ≤ R47 ∧ l.length ≤ c ∧ c ≤ maxLen ∧ ∃ xs, Row F w 6 A l.length xs ∧ Cells 6 (RVAt F w) l xs
theorem ValuesAt.at_ {w w' : World} {l : List RV} {A : Option Addr} {c : Nat} (h : ValuesAt (Old w) w l A c) (hb : Below w.heap.size w w') : ValuesAt (Old w') w' l A c := by
 obtain ⟨h1, h2, h3, xs, h4, h5⟩ := h
 exact ⟨h1, h2, h3, xs, (h4.keeps (Keeps.below hb fun _ h => h)).mono fun _ h => Nat.lt_of_lt_of_le h hb.size, h5.mono fun _ _ h => h.at_ hb⟩

def pairsV (l : List REl) (vs : List RV) : List (E × T) := (pel l).zip (vs.map RV.tree)
theorem pairsV_ok {l : List REl} {vs : List RV} (h : POk (pel l)) : ∀ p ∈ pairsV l vs, p.1.Ok := fun p hp => h _ (List.of_mem_zip hp).1
theorem pairsV_len (l : List REl) (vs : List RV) : (pairsV l vs).length = min l.length vs.length := by unfold pairsV; rw [List.length_zip, pel_length, List.length_map]
theorem pairsV_get {l : List REl} {vs : List RV} {k : Nat} (h1 : k < l.length) (h2 : k < vs.length) : (pairsV l vs)[k]? = some ((l[k]).elem, (vs[k]).tree) := by
 unfold pairsV
 rw [List.getElem?_eq_getElem (by rw [List.length_zip, pel_length, List.length_map]; omega), List.getElem_zip]
 simp [pel]

theorem pev_info : (Tryz.prog.info? 299).map (fun i => (i.zero, i.size, i.bytes)) = some (some (.agg #[.pointer none, .pointer none, .pointer none, .pointer none, .nilIface]), 5, 48) := by kernel_rfl

set_option maxRecDepth 100000 in
set_option maxHeartbeats 4000000 in
theorem makeEM_calls {n : Nat} (hn : n * 48 ≤ 140737488351232) (w : World) : Calls Tryz.prog 110 #[.int .i64 (n : Int)] w (fun en w' => ∃ s, en = .returned (.agg #[s]) ∧ w'.ownsRow w.heap.size 299 5 s 0 [] ∧ Below w.heap.size w w') := by
 obtain ⟨i9, hi9, hz9, hs9, hb9⟩ := info_parts pev_info
 have hb0 : Below w.heap.size w (w.alloc (.cells #[.slice none 0 0] 99)) := (Below.refl _ _).alloc (Nat.le_refl _) _
 have hbox := Bk.new w 99 #[.slice none 0 0]
 have H0 := hide (And.intro hb0 hbox)
 clear hb0 hbox
 go_enter Tryz.func110, Tryz.ntmps110
 go_wp2_with (at_make; refine wpList_make_own _ rfl _ _ 97 rfl w.heap.size 299 i9 _ 5 Tryz.underlying97 hi9 hz9 hs9 _ _ _ n rfl rfl rfl ?b2 ?b3 ?b4 ?_)
 case b2 => rw [hb9]; omega
 case b3 => unfold maxLen; omega
 case b4 => simp
 intro w1 hown hgrow
 have hb1 : Below w.heap.size w w1 := H0.out.1.grown hgrow H0.out.1.size (fun k h => by cases h)
 have hbk1 : Bk w1 w.heap.size 99 #[.slice none 0 0] := H0.out.2.grown hgrow (fun e => by cases e)
 have m0 := hbk1.cell 0
 have f0 := hbk1.free 0
 have hlt := hown.lt
 simp at m0
 have hfin : (w1.setCell ⟨w.heap.size, 0, none⟩ (.slice (some ⟨w.heap.size + 1, 0, none⟩) 0 n)).ownsRow w.heap.size 299 5 (.slice (some ⟨w.heap.size + 1, 0, none⟩) 0 n) 0 [] := ownsRow_setCell_other hown (fun e => by have e1 : w.heap.size + 1 = w.heap.size := Option.some.inj e; omega) _
 have Hx := hide (And.intro hfin (hb1.setCell (p := ⟨w.heap.size, 0, none⟩) (Nat.le_refl _) (.slice (some ⟨w.heap.size + 1, 0, none⟩) 0 n)))
 have Hbk := hide (show Bk (w1.setCell ⟨w.heap.size, 0, none⟩ (.slice (some ⟨w.heap.size + 1, 0, none⟩) 0 n)) w.heap.size 99 #[.slice (some ⟨w.heap.size + 1, 0, none⟩) 0 n] from by
  have := hbk1.set_ 0 (.slice (some ⟨w.heap.size + 1, 0, none⟩) 0 n)
  simpa using this)
 clear hown hgrow hb1 hbk1 hfin hlt H0
 go_wp2
 refine bodyPost_ret (results_cell_row rfl _ _ w.heap.size 99 #[.slice (some ⟨w.heap.size + 1, 0, none⟩) 0 n] (0, 0) _ rfl Hbk.out Tryz.underlying99 rfl (by kernel_rfl)) rfl ?_
 exact ⟨_, rfl, Hx.out.1, Hx.out.2⟩

set_option maxRecDepth 100000 in
set_option maxHeartbeats 4000000 in
theorem makeEV_calls {n : Nat} (hn : n * 48 ≤ 140737488351232) (w : World) : Calls Tryz.prog 59 #[.int .i64 (n : Int)] w (fun en w' => ∃ s, en = .returned (.agg #[s]) ∧ w'.ownsRow w.heap.size 299 5 s 0 [] ∧ Below w.heap.size w w') := by
 have hb0 : Below w.heap.size w (w.alloc (.cells #[.slice none 0 0] 101)) := (Below.refl _ _).alloc (Nat.le_refl _) _
 have hbox := Bk.new w 101 #[.slice none 0 0]
 have HM := hide (makeEM_calls hn (w.alloc (.cells #[.slice none 0 0] 101)))
 have H0 := hide (And.intro hb0 hbox)
 clear hb0 hbox
 go_enter Tryz.func59, Tryz.ntmps59
 go_wp2_with fail
 refine HM.out.mono ?_
 rintro en w1 ⟨s, rfl, hown, hb1⟩
 rw [World.size_alloc] at hown
 have hlt := hown.lt
 have hb1' : Below w.heap.size w w1 := H0.out.1.trans (hb1.mono H0.out.1.size)
 have hbk1 : Bk w1 w.heap.size 101 #[.slice none 0 0] := H0.out.2.below hb1 H0.out.2.lt
 have m0 := hbk1.cell 0
 have f0 := hbk1.free 0
 simp at m0
 obtain ⟨A1, c1, rfl, _, _⟩ := own_form hown
 have hown2 : (w1.setCell ⟨w.heap.size, 0, none⟩ (.slice A1 0 c1)).ownsRow (w.heap.size + 1) 299 5 (.slice A1 0 c1) 0 [] := ownsRow_setCell_below hown (a := ⟨w.heap.size, 0, none⟩) (by show w.heap.size < w.heap.size + 1; omega) _
 have hown3 : (w1.setCell ⟨w.heap.size, 0, none⟩ (.slice A1 0 c1)).ownsRow w.heap.size 299 5 (.slice A1 0 c1) 0 [] := by
  obtain ⟨q1, q2 | ⟨g, cap, cur, e, q2, q3⟩⟩ := hown2
  ·exact ⟨q1, .inl q2⟩
  ·exact ⟨q1, .inr ⟨g, cap, cur, e, by omega, q3⟩⟩
 have Hx := hide (And.intro hown3 (hb1'.setCell (p := ⟨w.heap.size, 0, none⟩) (Nat.le_refl _) (.slice A1 0 c1)))
 have Hbk := hide (show Bk (w1.setCell ⟨w.heap.size, 0, none⟩ (.slice A1 0 c1)) w.heap.size 101 #[.slice A1 0 c1] from by
  have := hbk1.set_ 0 (.slice A1 0 c1)
  simpa using this)
 clear hown hb1 hbk1 hlt H0 hb1' hown2 hown3 HM
 go_wp2
 refine bodyPost_ret (results_cell_row rfl _ _ w.heap.size 101 #[.slice A1 0 c1] (0, 0) _ rfl Hbk.out Tryz.underlying101 rfl (by kernel_rfl)) rfl ?_
 exact ⟨_, rfl, Hx.out.1, Hx.out.2⟩

def FrM (w : World) (B : Nat) (W : World) (s : Value) (b : Nat) : Prop := w.heap.size ≤ b ∧ b < W.heap.size ∧ b ≠ B ∧ s.ownBlock ≠ some b
def EMLInv (w : World) (B : Nat) (pc : Array Value) (n : Nat) (ps : List (E × T)) (s18 : Value) (W : World) : Prop :=
 ∃ (k : Nat) (s : Value) (xs : List Value), s18 = .int .i64 (k : Int) ∧ k ≤ n ∧ EMap (FrM w B W s) W 101 B (mapV (ps.take k)) s xs ∧ (∀ b, s.ownBlock = some b → w.heap.size + 2 ≤ b) ∧ Below w.heap.size w W ∧ Bk W w.heap.size 29 pc ∧ Bk W (w.heap.size + 1) 27 #[.int .i64 0, .int .i64 0, .float .f64 0, .string ⟨#[]⟩, .slice none 0 0, .slice none 0 0]

set_option maxRecDepth 100000 in
set_option maxHeartbeats 8000000 in
theorem implElemMap_calls {l : List REl} {vs : List RV} {r : REl} {cs : List Value} {A B : Option Addr} {c d : Nat} {w : World} (h : PathAt (Old w) w l A c) (hv : ValuesAt (Old w) w vs B d) (hr : ElemAt (Old w) w r cs) (hok : POk (pel l)) (he : r.elem.Ok) (hn : l.length ≤ N38) :
  Calls Tryz.prog 16 #[.slice A l.length c, .slice B vs.length d, .agg cs.toArray] w (GetIs (findV r.elem (mapV (pairsV l vs))) w) := by
 have hn' : l.length ≤ 274877906944 := hn
 have HE := hide fun (W : World) (hb : Below w.heap.size w W) => toElem_calls r W _ (hr.at_ hb)
 obtain ⟨h1, h2, h3, xs, h4, h5⟩ := h
 obtain ⟨k1, k2, k3, ys, k4, k5⟩ := hv
 have hv47 : vs.length * 88 ≤ 140737488351232 := k1
 have H7 := hide (And.intro h4 (And.intro h5 (And.intro k4 k5)))
 have Hok := hide (And.intro hok he)
 have hpk : ∀ k, VOk (mapV ((pairsV l vs).take k)) ∧ (mapV ((pairsV l vs).take k)).length ≤ l.length := fun k => by
  have h1 := mapV_ok ((pairsV l vs).take k) fun p hp => pairsV_ok hok p (List.mem_of_mem_take hp)
  have h2 := pairsV_len l vs
  have h3 := h1.2
  rw [List.length_take] at h3
  exact ⟨h1.1, by omega⟩
 have Hpk := hide (And.intro hpk (pairsV_len l vs))
 have HME := hide fun (W : World) => makeEV_calls (n := l.length) (by omega) W
 obtain ⟨a0, a1, a2, a3, a4, a5, a6, a7, a8, a9, aa, ab, ac, ad, ae, af, ag, ah, ai, rfl⟩ := hr.form
 obtain ⟨ov, hov⟩ : ∃ ov, findV r.elem (mapV (pairsV l vs)) = ov := ⟨_, rfl⟩
 rw [hov]
 have Hov := hide hov
 clear h1 h4 h5 k1 k2 k3 k4 k5 hr hok he hn hpk hov
 go_enter Tryz.func16, Tryz.ntmps16
 go_wp2_with fail
 have hb0 := below_two w (.cells #[.int .i64 a0, .string a1, .slice a2 a3 a4, .slice a5 a6 a7, .int .i64 a8, .int .i64 a9, .float .f64 aa, .string ab, .slice ac ad ae, .slice af ag ah, .int .i64 ai] 29) (.cells #[.int .i64 0, .int .i64 0, .float .f64 0, .string ⟨#[]⟩, .slice none 0 0, .slice none 0 0] 27)
 have hP := (Bk.new w 29 #[.int .i64 a0, .string a1, .slice a2 a3 a4, .slice a5 a6 a7, .int .i64 a8, .int .i64 a9, .float .f64 aa, .string ab, .slice ac ad ae, .slice af ag ah, .int .i64 ai]).alloc (.cells #[.int .i64 0, .int .i64 0, .float .f64 0, .string ⟨#[]⟩, .slice none 0 0, .slice none 0 0] 27)
 have hR := Bk.new (w.alloc (.cells #[.int .i64 a0, .string a1, .slice a2 a3 a4, .slice a5 a6 a7, .int .i64 a8, .int .i64 a9, .float .f64 aa, .string ab, .slice ac ad ae, .slice af ag ah, .int .i64 ai] 29)) 27 #[.int .i64 0, .int .i64 0, .float .f64 0, .string ⟨#[]⟩, .slice none 0 0, .slice none 0 0]
 rw [World.size_alloc] at hR
 generalize World.alloc _ _ = W0 at hb0 hP hR ⊢
 refine (HME.out W0).mono ?_
 rintro en w1 ⟨s, rfl, hown, hb1⟩
 obtain ⟨A1, c1, rfl, _, _⟩ := own_form hown
 have hsW : w.heap.size + 2 ≤ W0.heap.size := hR.lt
 have hs01 : W0.heap.size ≤ w1.heap.size := hb1.size
 have H1 := hide (And.intro hown (And.intro (hb0.trans (hb1.mono hb0.size)) (And.intro (hP.below hb1 hP.lt) (hR.below hb1 hR.lt))))
 clear hown hb0 hb1 hP hR HME
 go_upto_region 2 with fail
 have hb2 : Below w1.heap.size w1 (w1.alloc (.cells #[.slice A1 0 c1] 101)) := (Below.refl _ _).alloc (Nat.le_refl _) _
 have hbm := Bk.new w1 101 #[.slice A1 0 c1]
 have hstart : EMLInv w w1.heap.size #[.int .i64 a0, .string a1, .slice a2 a3 a4, .slice a5 a6 a7, .int .i64 a8, .int .i64 a9, .float .f64 aa, .string ab, .slice ac ad ae, .slice af ag ah, .int .i64 ai] l.length (pairsV l vs) (.int .i64 0) (w1.alloc (.cells #[.slice A1 0 c1] 101)) := by
  have hlt := H1.out.1.lt
  refine ⟨0, .slice A1 0 c1, [], rfl, Nat.zero_le _, ⟨hbm, ?_, ?_, fun e => by have := (hlt _ e).2; omega⟩, fun b hb => by have := (hlt b hb).1; omega, H1.out.2.1.trans (hb2.mono H1.out.2.1.size), H1.out.2.2.1.below hb2 H1.out.2.2.1.lt, H1.out.2.2.2.below hb2 H1.out.2.2.2.lt⟩
  ·rw [List.take_zero]
   obtain ⟨q1, q2 | ⟨g, cap, cur, e, q2, q3⟩⟩ := ownsRow_below H1.out.1 hb2 (Nat.le_refl _)
   ·exact ⟨q1, .inl q2⟩
   ·exact ⟨q1, .inr ⟨g, cap, cur, e, Nat.zero_le _, q3⟩⟩
  ·rw [List.take_zero]
   exact Cells.nil_
 obtain ⟨Bm, hBm⟩ : ∃ Bm, w1.heap.size = Bm := ⟨_, rfl⟩
 rw [hBm] at hstart
 have hBm2 : w.heap.size + 2 ≤ Bm := by omega
 have Hst := hide hstart
 clear hstart hb2 hbm H1
 generalize World.alloc _ _ = w2 at Hst ⊢
 try rw [hBm]
 go_wp2_with fail
 go_loopw [18] (fun s W => EMLInv w Bm #[.int .i64 a0, .string a1, .slice a2 a3 a4, .slice a5 a6 a7, .int .i64 a8, .int .i64 a9, .float .f64 aa, .string ab, .slice ac ad ae, .slice af ag ah, .int .i64 ai] l.length (pairsV l vs) s W) (fun s _ => l.length - (intOf s).toNat)
 case atStart => exact Hst.out
 case round =>
  clear Hst
  obtain ⟨k, s', us, rfl, hk, hem, hsb, hb, hP, hR⟩ := hrel
  have hki0 : (0 : Int) ≤ (k : Int) := Int.natCast_nonneg _
  by_cases hlt : k < l.length
  ·have hki1 : (k : Int) < (l.length : Int) := by omega
   have hx := H7.out.2.1.at_ hlt
   have heo : (l[k]).elem.Ok := Hok.out.1 _ (by simp [pel]; exact ⟨_, List.getElem_mem _, rfl⟩)
   have hpg : ∀ (hj : k < vs.length), (pairsV l vs).take (k + 1) = (pairsV l vs).take k ++ [((l[k]).elem, (vs[k]).tree)] := fun hj => by
    have := pairsV_get hlt hj
    rw [List.take_add_one, this]
    rfl
   generalize l[k] = fx at *
   generalize hcs : (xs.drop (k * 11)).take 11 = fcs at hx
   obtain ⟨b0, b1, b2, b3, b4, b5, b6, b7, b8, b9, ba, bb, bc, bd, be, bf, bg, bh, bi, rfl⟩ := hx.form
   obtain ⟨rb, ro, rfl, hF, hc⟩ := rown_at H7.out.1 hlt hcs
   have ec := (bcell hb).1
   have q0 := (ec _ _ hF).trans (hc 0 _ rfl)
   have q1 := (ec _ _ hF).trans (hc 1 _ rfl)
   have q2 := (ec _ _ hF).trans (hc 2 _ rfl)
   have q3 := (ec _ _ hF).trans (hc 3 _ rfl)
   have q4 := (ec _ _ hF).trans (hc 4 _ rfl)
   have q5 := (ec _ _ hF).trans (hc 5 _ rfl)
   have q6 := (ec _ _ hF).trans (hc 6 _ rfl)
   have q7 := (ec _ _ hF).trans (hc 7 _ rfl)
   have q8 := (ec _ _ hF).trans (hc 8 _ rfl)
   have q9 := (ec _ _ hF).trans (hc 9 _ rfl)
   have q10 := (ec _ _ hF).trans (hc 10 _ rfl)
   rw [Nat.add_zero] at q0
   have hrb : rb < w.heap.size := hF
   have HE2 := hide fun (W : World) (hb : Below w.heap.size w W) => toElem_calls fx W _ (hx.at_ hb)
   have hem1 := hem.bk.lt
   have Hq := hide (And.intro hem (And.intro hsb (And.intro hb (And.intro hP (And.intro hR (And.intro hpg heo))))))
   have hwe : w.heap.size ≤ wr.heap.size := hb.size
   clear hem hsb hb hP hR hpg heo hx hcs hc ec hF
   obtain ⟨wo, hwo⟩ : ∃ W, W = wr := ⟨_, rfl⟩
   subst hwo
   by_cases hltv : k < vs.length
   ·have hkv : (k : Int) < (vs.length : Int) := by omega
    go_upto_region 6 with fail
    have hbA : Below wo.heap.size wo (wo.alloc (.cells #[.int .i64 b0, .string b1, .slice b2 b3 b4, .slice b5 b6 b7, .int .i64 b8, .int .i64 b9, .float .f64 ba, .string bb, .slice bc bd be, .slice bf bg bh, .int .i64 bi] 29)) := (Below.refl _ _).alloc (Nat.le_refl _) _
    have hX := Bk.new wo 29 #[.int .i64 b0, .string b1, .slice b2 b3 b4, .slice b5 b6 b7, .int .i64 b8, .int .i64 b9, .float .f64 ba, .string bb, .slice bc bd be, .slice bf bg bh, .int .i64 bi]
    have hwA : (wo.alloc (.cells #[.int .i64 b0, .string b1, .slice b2 b3 b4, .slice b5 b6 b7, .int .i64 b8, .int .i64 b9, .float .f64 ba, .string bb, .slice bc bd be, .slice bf bg bh, .int .i64 bi] 29)).heap.size = wo.heap.size + 1 := World.size_alloc _ _
    clear q0 q1 q2 q3 q4 q5 q6 q7 q8 q9 q10
    generalize hw1 : World.alloc wo _ = wA at hbA hX hwA ⊢
    have hbwA : Below w.heap.size w wA := Hq.out.2.2.1.trans (hbA.mono hwe)
    have hy := H7.out.2.2.2.at_ hltv
    have hpg := Hq.out.2.2.2.2.2.1 hltv
    generalize vs[k] = vx at *
    generalize hds : (ys.drop (k * 6)).take 6 = gcs at hy
    have HV := hide fun (W : World) (hb : Below w.heap.size w W) => toValue_calls vx W _ (hy.at_ hb)
    obtain ⟨z0, z1, z2, z3, zA, zn, zc, yA, yn, yc, rfl⟩ := hy.form
    obtain ⟨sb, so, rfl, hG, hd⟩ := rown_at H7.out.2.2.1 hltv hds
    have hsbl : sb < w.heap.size := hG
    obtain ⟨S, hS⟩ : ∃ S : World → Prop, (fun W => Bk W wo.heap.size 29 #[.int .i64 b0, .string b1, .slice b2 b3 b4, .slice b5 b6 b7, .int .i64 b8, .int .i64 b9, .float .f64 ba, .string bb, .slice bc bd be, .slice bf bg bh, .int .i64 bi] ∧ (W.cell? ⟨sb, so + k * 6, none⟩ = some (.int .i64 z0) ∧ W.cell? ⟨sb, so + k * 6 + 1, none⟩ = some (.int .i64 z1) ∧ W.cell? ⟨sb, so + k * 6 + 2, none⟩ = some (.float .f64 z2)) ∧ W.cell? ⟨sb, so + k * 6 + 3, none⟩ = some (.string z3) ∧ W.cell? ⟨sb, so + k * 6 + 4, none⟩ = some (.slice zA zn zc) ∧ W.cell? ⟨sb, so + k * 6 + 5, none⟩ = some (.slice yA yn yc)) = S := ⟨_, rfl⟩
    have ecA := (bcell hbwA).1
    have hS0 : S wA.drew := by
     rw [← hS]
     exact ⟨hX.drew, ⟨(ecA _ _ hG).trans (hd 0 _ rfl), (ecA _ _ hG).trans (hd 1 _ rfl), (ecA _ _ hG).trans (hd 2 _ rfl)⟩, (ecA _ _ hG).trans (hd 3 _ rfl), (ecA _ _ hG).trans (hd 4 _ rfl), (ecA _ _ hG).trans (hd 5 _ rfl)⟩
    have HA := hide (And.intro hbA (And.intro hbwA hpg))
    have hSm : ∀ (W W' : World), S W → Below W.heap.size W W' → wo.heap.size < W.heap.size → w.heap.size ≤ W.heap.size → S W' := fun W W' h hb h1 h2 => by
     rw [← hS] at h ⊢
     have e := (bcell hb).1
     exact ⟨h.1.below hb h1, ⟨(e _ _ (by omega)).trans h.2.1.1, (e _ _ (by omega)).trans h.2.1.2.1, (e _ _ (by omega)).trans h.2.1.2.2⟩, (e _ _ (by omega)).trans h.2.2.1, (e _ _ (by omega)).trans h.2.2.2.1, (e _ _ (by omega)).trans h.2.2.2.2⟩
    have HSm := hide hSm
    clear hbA hX hw1 hbwA hpg hds hd hG ecA hy hSm
    go_wp2_with fail
    refine wp_region_head 7 S (by rfl) (by kernel_rfl) ?_
    refine HT.take 0 (v := ?_) rfl (by kernel_rfl) (fun _ _ _ h => h) (Or.inl ⟨by rfl, ?_⟩) ‹_› ?_
    rotate_left
    ·intro W hSw; rw [← hS] at hSw; obtain ⟨hbk, ⟨y0, y1, y2⟩, y3, y4, y5⟩ := hSw; obtain ⟨s0, s1, s2, s3, s4, s5, s6, s7, s8, s9, s10⟩ := Bk.cells11 hbk; clear hbk; go_simp; with_reducible rfl
    simp only [Act.put, zzA, zzZ, zzS]
    refine HT.take 2 (v := ?_) rfl (by kernel_rfl) (fun _ _ _ h => h) (Or.inl ⟨by rfl, ?_⟩) ‹_› ?_
    rotate_left
    ·intro W hSw; rw [← hS] at hSw; obtain ⟨hbk, ⟨y0, y1, y2⟩, y3, y4, y5⟩ := hSw; obtain ⟨s0, s1, s2, s3, s4, s5, s6, s7, s8, s9, s10⟩ := Bk.cells11 hbk; clear hbk; go_simp; with_reducible rfl
    simp only [Act.put, zzA, zzZ, zzS]
    refine HT.take 3 (v := ?_) rfl (by kernel_rfl) (fun _ _ _ h => h) (Or.inl ⟨by rfl, ?_⟩) ‹_› ?_
    rotate_left
    ·intro W hSw; rw [← hS] at hSw; obtain ⟨hbk, ⟨y0, y1, y2⟩, y3, y4, y5⟩ := hSw; obtain ⟨s0, s1, s2, s3, s4, s5, s6, s7, s8, s9, s10⟩ := Bk.cells11 hbk; clear hbk; go_simp; with_reducible rfl
    simp only [Act.put, zzA, zzZ, zzS]
    refine HT.take 4 (v := ?_) rfl (by kernel_rfl) (fun _ _ _ h => h) (Or.inl ⟨by rfl, ?_⟩) ‹_› ?_
    rotate_left
    ·intro W hSw; rw [← hS] at hSw; obtain ⟨hbk, ⟨y0, y1, y2⟩, y3, y4, y5⟩ := hSw; obtain ⟨s0, s1, s2, s3, s4, s5, s6, s7, s8, s9, s10⟩ := Bk.cells11 hbk; clear hbk; go_simp; with_reducible rfl
    simp only [Act.put, zzA, zzZ, zzS]
    refine HT.take 5 (v := ?_) rfl (by kernel_rfl) (fun _ _ _ h => h) (Or.inl ⟨by rfl, ?_⟩) ‹_› ?_
    rotate_left
    ·intro W hSw; rw [← hS] at hSw; obtain ⟨hbk, ⟨y0, y1, y2⟩, y3, y4, y5⟩ := hSw; obtain ⟨s0, s1, s2, s3, s4, s5, s6, s7, s8, s9, s10⟩ := Bk.cells11 hbk; clear hbk; go_simp; with_reducible rfl
    simp only [Act.put, zzA, zzZ, zzS]
    refine HT.one 1 rfl (by kernel_rfl) (by rfl) (fun K hK => ?_)
    go_simp
    refine (HE2.out wA.drew (below_drew HA.out.2.1)).mono ?_
    rintro en w3 ⟨pps, rfl, hp, hb3⟩
    obtain ⟨p0, p1, p2, p3, rfl⟩ := hp.form
    have hb3' : Below wA.heap.size wA w3 := below_drew' hb3
    have hs3 : wA.heap.size ≤ w3.heap.size := hb3'.size
    have hS3 : S w3 := HSm.out _ _ hS0 hb3 (by show wo.heap.size < wA.heap.size; omega) (by show w.heap.size ≤ wA.heap.size; omega)
    have H3 := hide (And.intro hp hb3')
    clear hp hb3 hb3' HE2
    go_simp
    refine hK.out _ _ hS3 ?_
    clear hK
    refine HT.one 6 rfl (by kernel_rfl) (by rfl) (fun K hK => ?_)
    go_simp
    refine (HV.out w3 (HA.out.2.1.trans (H3.out.2.mono (by omega)))).mono ?_
    rintro en w4 ⟨v4, rfl, hv4, hb4⟩
    have hs4 : w3.heap.size ≤ w4.heap.size := hb4.size
    have hS4 : S w4 := HSm.out _ _ hS3 hb4 (by omega) (by omega)
    have H4 := hide (And.intro hv4 hb4)
    clear hv4 hb4 HV
    go_simp
    refine hK.out _ _ hS4 ?_
    clear hK
    refine HT.done (by kernel_rfl) ?_
    simp only [List.drop_succ_cons, List.drop_zero]
    obtain ⟨hv4, hb4⟩ := H4.out
    obtain ⟨gv, uv, rfl, hgv, hgB, hgu⟩ := hv4
    have hsl := Hq.out.1.own.lt
    have hv4' : ValAt (FrM w Bm w4 s') w4 vx.tree (.iface 302 (.pointer (some ⟨gv, 0, none⟩))) := (show ValAt (Fr w3.heap.size w4) w4 vx.tree _ from ⟨gv, uv, rfl, hgv, hgB, hgu⟩).mono fun b hb => by
     have h1 : w3.heap.size ≤ b := hb.1
     exact ⟨by omega, hb.2, by omega, fun e => by have := (hsl b e).2; omega⟩
    have hbo4 : Below wo.heap.size wo w4 := (HA.out.1.trans (H3.out.2.mono (by omega))).trans (hb4.mono (by omega))
    have hem4 : EMap (FrM w Bm w4 s') w4 101 Bm (mapV ((pairsV l vs).take k)) s' us :=
     ⟨Hq.out.1.bk.below hbo4 hem1, ownsRow_below Hq.out.1.own hbo4 (Nat.le_refl _), Hq.out.1.at_.mono fun _ _ h => VCell.mono (VCell.keeps h (Keeps.below hbo4 fun b hb => hb.2.1)) fun b hb => ⟨hb.1, Nat.lt_of_lt_of_le hb.2.1 hbo4.size, hb.2.2⟩, Hq.out.1.sep⟩
    have hp4 : PEAt (FrM w Bm w4 s') w4 fx.elem [.pointer p0, .pointer p1, .pointer p2, .pointer p3] := (H3.out.1.keeps (Keeps.below hb4 fun b hb => hb.2)).mono fun b hb => by
     have h1 : wA.heap.size ≤ b := hb.1
     have h2 : b < w3.heap.size := hb.2
     exact ⟨by omega, by omega, by omega, fun e => by have := (hsl b e).2; omega⟩
    have HI := hide (evInsert_calls hem4 (fun b hb => ⟨hb.2.1, hb.2.2⟩) hp4 hv4' (Hpk.out.1 k).1 Hq.out.2.2.2.2.2.2 (by have := (Hpk.out.1 k).2; unfold R47; omega))
    have Hb4 := hide (And.intro hbo4 HA.out.2.2)
    have hsw4 : wo.heap.size ≤ w4.heap.size := hbo4.size
    clear hb4 hgv hgB hgu hv4' hbo4 hem4 hp4 hS0 hS3 hS4 hS H3 H4 HSm HA hsl
    go_wp2_with fail
    refine HI.out.mono ?_
    rintro en w5 ⟨rfl, s5, us5, hem5, hblk, hG⟩
    have hs5 : w4.heap.size ≤ w5.heap.size := hG.size
    have hbw4 : Below w.heap.size w w4 := Hq.out.2.2.1.trans (Hb4.out.1.mono hwe)
    have hbw5 : Below w.heap.size w w5 := by
     refine ⟨hG.os.trans hbw4.os, hG.tape.trans hbw4.tape, hG.output.trans hbw4.output, Nat.le_trans hbw4.size hG.size, fun b hb => ?_⟩
     rw [hG.block b (by omega) (by omega) fun e => by have := Hq.out.2.1 b e.symm; omega]
     exact hbw4.block b hb
    have hfin : EMLInv w Bm #[.int .i64 a0, .string a1, .slice a2 a3 a4, .slice a5 a6 a7, .int .i64 a8, .int .i64 a9, .float .f64 aa, .string ab, .slice ac ad ae, .slice af ag ah, .int .i64 ai] l.length (pairsV l vs) (.int .i64 ((k + 1 : Nat) : Int)) w5 := by
     refine ⟨k + 1, s5, us5, rfl, by omega, ?_, fun b hb => ?_, hbw5, ?_, ?_⟩
     ·rw [Hb4.out.2, mapV_snoc]
      refine ⟨hem5.bk, hem5.own, hem5.at_.mono fun _ _ h => VCell.mono h fun b hb => ⟨hb.1, Nat.lt_of_lt_of_le hb.2.1 hs5, hb.2.2.1, ?_⟩, hem5.sep⟩
      rcases hblk with e | ⟨b', e, hb'⟩
      ·rw [e]; exact hb.2.2.2
      ·rw [e]; intro e2; cases e2; have := hb.2.1; omega
     ·rcases hblk with e | ⟨b', e, hb'⟩
      ·exact Hq.out.2.1 b (by rw [← e]; exact hb)
      ·rw [e] at hb; cases hb; omega
     ·have hl := Hq.out.2.2.2.1.lt
      exact (hG.block _ (by omega) (by omega) fun e => by have := Hq.out.2.1 _ e.symm; omega).trans (Hq.out.2.2.2.1.below Hb4.out.1 hl)
     ·have hl := Hq.out.2.2.2.2.1.lt
      exact (hG.block _ (by omega) (by omega) fun e => by have := Hq.out.2.1 _ e.symm; omega).trans (Hq.out.2.2.2.2.1.below Hb4.out.1 hl)
    have Hfin := hide hfin
    clear hem5 hblk hG hbw4 hbw5 hfin HI Hb4 Hq
    go_wp2_with fail
    exact ⟨Hfin.out, by simp [intOf]; omega⟩
   ·have hkv : ¬ (k : Int) < (vs.length : Int) := by omega
    go_upto_region 7 with fail
    have hbA : Below wo.heap.size wo (wo.alloc (.cells #[.int .i64 b0, .string b1, .slice b2 b3 b4, .slice b5 b6 b7, .int .i64 b8, .int .i64 b9, .float .f64 ba, .string bb, .slice bc bd be, .slice bf bg bh, .int .i64 bi] 29)) := (Below.refl _ _).alloc (Nat.le_refl _) _
    clear q0 q1 q2 q3 q4 q5 q6 q7 q8 q9 q10
    generalize World.alloc wo _ = wA at hbA ⊢
    have hpt : (pairsV l vs).take (k + 1) = (pairsV l vs).take k := by rw [List.take_of_length_le (by rw [Hpk.out.2]; omega), List.take_of_length_le (by rw [Hpk.out.2]; omega)]
    have hfin : EMLInv w Bm #[.int .i64 a0, .string a1, .slice a2 a3 a4, .slice a5 a6 a7, .int .i64 a8, .int .i64 a9, .float .f64 aa, .string ab, .slice ac ad ae, .slice af ag ah, .int .i64 ai] l.length (pairsV l vs) (.int .i64 ((k + 1 : Nat) : Int)) wA := by
     refine ⟨k + 1, s', us, rfl, by omega, ?_, Hq.out.2.1, Hq.out.2.2.1.trans (hbA.mono hwe), Hq.out.2.2.2.1.below hbA Hq.out.2.2.2.1.lt, Hq.out.2.2.2.2.1.below hbA Hq.out.2.2.2.2.1.lt⟩
     rw [hpt]
     exact ⟨Hq.out.1.bk.below hbA hem1, ownsRow_below Hq.out.1.own hbA (Nat.le_refl _), Hq.out.1.at_.mono fun _ _ h => VCell.mono (VCell.keeps h (Keeps.below hbA fun b hb => hb.2.1)) fun b hb => ⟨hb.1, Nat.lt_of_lt_of_le hb.2.1 hbA.size, hb.2.2⟩, Hq.out.1.sep⟩
    have Hfin := hide hfin
    clear hbA hpt hfin HE2 Hq
    go_wp2_with fail
    exact ⟨Hfin.out, by simp [intOf]; omega⟩
  ·have hke : k = l.length := by omega
   subst hke
   have hki1 : ¬ ((l.length : Nat) : Int) < (l.length : Int) := by omega
   have hpt : (pairsV l vs).take l.length = pairsV l vs := List.take_of_length_le (by rw [Hpk.out.2]; omega)
   have hpo := Hpk.out.1 l.length
   rw [hpt] at hem hpo
   generalize mapV (pairsV l vs) = mm at *
   obtain ⟨s0, s1, s2, s3, s4, s5, s6, s7, s8, s9, s10⟩ := hP.cells11
   have hpl := hP.lt
   have hem1 := hem.bk.lt
   have hwe : w.heap.size ≤ wr.heap.size := hb.size
   have Hq := hide (And.intro hem (And.intro hsb (And.intro hb (And.intro hR hpo))))
   clear hem hsb hb hP hR hpt hpo hlt Hpk
   go_wp2_with fail
   refine (HE.out wr Hq.out.2.2.1).mono ?_
   rintro en w3 ⟨pps, rfl, hp, hb3⟩
   obtain ⟨p0, p1, p2, p3, rfl⟩ := hp.form
   have hsl := Hq.out.1.own.lt
   have hs3 : wr.heap.size ≤ w3.heap.size := hb3.size
   have hem3 : EMap (FrM w Bm w3 s') w3 101 Bm mm s' us :=
    ⟨Hq.out.1.bk.below hb3 hem1, ownsRow_below Hq.out.1.own hb3 (Nat.le_refl _), Hq.out.1.at_.mono fun _ _ h => VCell.mono (VCell.keeps h (Keeps.below hb3 fun b hb => hb.2.1)) fun b hb => ⟨hb.1, Nat.lt_of_lt_of_le hb.2.1 hb3.size, hb.2.2⟩, Hq.out.1.sep⟩
   have hp3 : PEAt (FrM w Bm w3 s') w3 r.elem [.pointer p0, .pointer p1, .pointer p2, .pointer p3] := hp.mono fun b hb => by
    have h1 : wr.heap.size ≤ b := hb.1
    exact ⟨by omega, hb.2, by omega, fun e => by have := (hsl b e).2; omega⟩
   have HG := hide (evGet_calls hem3 (fun b hb => ⟨hb.2.1, hb.2.2⟩) hp3 Hq.out.2.2.2.2.1 Hok.out.2 (by have := Hq.out.2.2.2.2.2; unfold R47; omega))
   have H3 := hide (And.intro (Hq.out.2.2.1.trans (hb3.mono hwe)) (Hq.out.2.2.2.1.below hb3 Hq.out.2.2.2.1.lt))
   clear hp hb3 hem3 hp3 hsl HE s0 s1 s2 s3 s4 s5 s6 s7 s8 s9 s10 Hq
   go_wp2_with fail
   refine HG.out.mono ?_
   rintro en w4 ⟨hb4, hor⟩
   have hs4 : w3.heap.size ≤ w4.heap.size := hb4.size
   have H4 := hide (And.intro (H3.out.1.trans (hb4.mono (by omega))) (H3.out.2.below hb4 H3.out.2.lt))
   obtain ⟨v, hen, hitem⟩ : ∃ v, en = .returned (.tuple #[v, .bool (Option.isSome ov)]) ∧ ItemV w4 ov v := by
    rcases hor with ⟨t, gv, hf, rfl, hv⟩ | ⟨hf, rfl⟩
    ·rw [show ov = some t from Hov.out.symm.trans hf]
     exact ⟨_, rfl, (hv.keeps (Keeps.below hb4 fun b hb => hb.2.1)).mono fun b hb => Nat.lt_of_lt_of_le hb.2.1 hs4⟩
    ·rw [show ov = none from Hov.out.symm.trans hf]
     exact ⟨_, rfl, rfl⟩
   subst hen
   have Hitem := hide (fromItem_calls hitem)
   clear hb4 hor hitem HG H3
   obtain ⟨bv, hbv⟩ : ∃ bv, Option.isSome ov = bv := ⟨_, rfl⟩
   rw [hbv]
   have Hbv := hide hbv
   clear hbv
   go_wp2_with fail
   refine Hitem.out.mono ?_
   rintro e w5 ⟨cs, rfl, hcc, hb5⟩
   have hR5 := H4.out.2.below hb5 H4.out.2.lt
   have hbw := H4.out.1.trans (hb5.mono (by omega))
   obtain ⟨d0, d1, d2, d3, dA, dn, dc, eA, en, ec, rfl⟩ := hcc.form
   have hcc' := hcc.mono (G := fun b => w.heap.size + 2 ≤ b ∧ b < w5.heap.size) fun b hb => hb.elim (fun h => h.elim) fun h => ⟨by have := h.1; omega, h.2⟩
   obtain ⟨p0, p1, p2, p3, p4, p5⟩ := Bx.of hR5
   have fz : ∀ i, w5.frozen? ⟨w.heap.size + 1, i, none⟩ = false := fun i => hR5.free i
   have Hfin := hide (And.intro hcc' (And.intro hR5 hbw))
   clear hcc hcc' hR5 hbw hb5 Hitem
   go_wp2
   have hbv := Hbv.out
   clear Hbv
   subst hbv
   exact get_ret rfl _ Hfin.out.1 Hfin.out.2.1 Hfin.out.2.2 rfl rfl

end Go.Proofs.YtbicoknghdgahaaGreat
