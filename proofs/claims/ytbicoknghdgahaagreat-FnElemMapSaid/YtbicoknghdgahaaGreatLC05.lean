/- Parts: LawElemMap, RowVs. -/
import Derived.Test.YtbicoknghdgahaaGreatKI01
import Derived.Test.YtbicoknghdgahaaGreatLA01
import Derived.Test.YtbicoknghdgahaaGreatLC04
set_option linter.unusedVariables false
set_option linter.unusedSimpArgs false
namespace Go.Proofs.YtbicoknghdgahaaGreat
open Go.RowKit
attribute [local go_sem] run_store_float

theorem emap_ones {F : Nat → Prop} {w : World} {l : List REl} {xs : List Value} (h : Cells 11 (ElemAt F w) l xs) : ∀ u ∈ xs, u.oneCell' = true :=
 h.ones (by decide) fun a cs h => by
  obtain ⟨a0, a1, a2, a3, a4, a5, a6, a7, a8, a9, aa, ab, ac, ad, ae, af, ag, ah, ai, rfl⟩ := h.form
  simp [Value.oneCell']
theorem old_step1 {α : Type} {k : Nat} {Q : (Nat → Prop) → World → α → List Value → Prop} (qk : ∀ {F : Nat → Prop} {w w' : World} {a : α} {cs : List Value}, Q F w a cs → Keeps F w w' → Q F w' a cs)
  {w V W3 : World} {ls add : List α} {us news : List Value} {row : Option Nat} (hc : Cells k (Q (Old w) V) ls us) (hb : Below w.heap.size w V) (hlo : ∀ b, row = some b → w.heap.size ≤ b) (hg : V.grownBy W3 row) (hadd : Cells k (Q (Old w) V) add news) :
  Cells k (Q (Old w) W3) (ls ++ add) (us ++ news) ∧ Below w.heap.size w W3 := by
 have hk : Keeps (Old w) V W3 := fun b hb' => hg.block b (Nat.lt_of_lt_of_le hb' hb.size) fun e => by have h1 := hlo b e.symm; have hb' : b < w.heap.size := hb'; omega
 exact ⟨Cells.append (hc.mono fun _ _ h => qk h hk) (hadd.mono fun _ _ h => qk h hk), hb.grown hg hb.size hlo⟩
def LkInv (w : World) (pc : Array Value) (e : E) (ps : List (E × T)) (s8 : Value) (W : World) : Prop :=
 ∃ j : Nat, s8 = .int .i64 ((j : Int) - 1) ∧ j ≤ ps.length ∧ (∀ (i : Nat) p, j ≤ i → ps[i]? = some p → E.cmp p.1 e ≠ 0) ∧ Below w.heap.size w W ∧ Bk W w.heap.size 29 pc ∧ Bk W (w.heap.size + 1) 27 #[.int .i64 0, .int .i64 0, .float .f64 0, .string ⟨#[]⟩, .slice none 0 0, .slice none 0 0]

set_option maxRecDepth 100000 in
set_option maxHeartbeats 8000000 in
theorem lookup_calls {l : List REl} {vs : List RV} {r : REl} {cs : List Value} {A B : Option Addr} {c d : Nat} {w : World} (h : PathAt (Old w) w l A c) (hv : ValuesAt (Old w) w vs B d) (hr : ElemAt (Old w) w r cs) (hok : POk (pel l)) (he : r.elem.Ok) :
  Calls Tryz.prog 17 #[.slice A l.length c, .slice B vs.length d, .agg cs.toArray] w (GetIs (lookV r.elem (pairsV l vs)) w) := by
 have hl47 : l.length * 168 ≤ 140737488351232 := h.1
 have hv47 : vs.length * 88 ≤ 140737488351232 := hv.1
 have HR := hide fun (W : World) (hb : Below w.heap.size w W) => hr.at_ hb
 obtain ⟨h1, h2, h3, xs, h4, h5⟩ := h
 obtain ⟨k1, k2, k3, ys, k4, k5⟩ := hv
 have H7 := hide (And.intro h4 (And.intro h5 (And.intro k4 k5)))
 have Hok := hide (And.intro hok he)
 obtain ⟨m, hm, hmm, hm1, hm2⟩ : ∃ m : Nat, (if vs.length < l.length then (vs.length : Int) else (l.length : Int)) = (m : Int) ∧ (pairsV l vs).length = m ∧ m ≤ l.length ∧ m ≤ vs.length := by
  refine ⟨min l.length vs.length, ?_, pairsV_len l vs, Nat.min_le_left _ _, Nat.min_le_right _ _⟩
  split <;> omega
 have Hm := hide hmm
 obtain ⟨a0, a1, a2, a3, a4, a5, a6, a7, a8, a9, aa, ab, ac, ad, ae, af, ag, ah, ai, rfl⟩ := hr.form
 obtain ⟨ov, hov⟩ : ∃ ov, lookV r.elem (pairsV l vs) = ov := ⟨_, rfl⟩
 rw [hov]
 have Hov := hide hov
 clear h1 h4 h5 k1 k2 k3 k4 k5 hr hok he hov hmm
 go_enter Tryz.func17, Tryz.ntmps17
 go_wp2_with fail
 have hb0 := below_two w (.cells #[.int .i64 a0, .string a1, .slice a2 a3 a4, .slice a5 a6 a7, .int .i64 a8, .int .i64 a9, .float .f64 aa, .string ab, .slice ac ad ae, .slice af ag ah, .int .i64 ai] 29) (.cells #[.int .i64 0, .int .i64 0, .float .f64 0, .string ⟨#[]⟩, .slice none 0 0, .slice none 0 0] 27)
 have hP := (Bk.new w 29 #[.int .i64 a0, .string a1, .slice a2 a3 a4, .slice a5 a6 a7, .int .i64 a8, .int .i64 a9, .float .f64 aa, .string ab, .slice ac ad ae, .slice af ag ah, .int .i64 ai]).alloc (.cells #[.int .i64 0, .int .i64 0, .float .f64 0, .string ⟨#[]⟩, .slice none 0 0, .slice none 0 0] 27)
 have hR := Bk.new (w.alloc (.cells #[.int .i64 a0, .string a1, .slice a2 a3 a4, .slice a5 a6 a7, .int .i64 a8, .int .i64 a9, .float .f64 aa, .string ab, .slice ac ad ae, .slice af ag ah, .int .i64 ai] 29)) 27 #[.int .i64 0, .int .i64 0, .float .f64 0, .string ⟨#[]⟩, .slice none 0 0, .slice none 0 0]
 rw [World.size_alloc] at hR
 generalize World.alloc _ _ = W0 at hb0 hP hR ⊢
 have hstart : LkInv w #[.int .i64 a0, .string a1, .slice a2 a3 a4, .slice a5 a6 a7, .int .i64 a8, .int .i64 a9, .float .f64 aa, .string ab, .slice ac ad ae, .slice af ag ah, .int .i64 ai] r.elem (pairsV l vs) (.int .i64 ((m : Int) - 1)) W0 := ⟨m, rfl, by rw [Hm.out]; exact Nat.le_refl _, fun i p hi hp => by have := (List.getElem?_eq_some_iff.1 hp).1; have := Hm.out; omega, hb0, hP, hR⟩
 have Hst := hide hstart
 clear hstart hb0 hP hR
 go_wp2_with fail
 go_loopw [8] (fun s W => LkInv w #[.int .i64 a0, .string a1, .slice a2 a3 a4, .slice a5 a6 a7, .int .i64 a8, .int .i64 a9, .float .f64 aa, .string ab, .slice ac ad ae, .slice af ag ah, .int .i64 ai] r.elem (pairsV l vs) s W) (fun s _ => (intOf s + 1).toNat)
 case atStart => exact Hst.out
 case round =>
  clear Hst
  obtain ⟨j, rfl, hj, hall, hb, hP, hR⟩ := hrel
  rw [Hm.out] at hj
  by_cases hj0 : j = 0
  ·subst hj0
   have hki : ¬ (0 : Int) ≤ ((0 : Nat) : Int) - 1 := by decide
   have hnone : ov = none := Hov.out.symm.trans (lookV_none fun i p hp => hall i p (Nat.zero_le _) hp)
   have Hq := hide (And.intro hb hR)
   obtain ⟨p0, p1, p2, p3, p4, p5⟩ := Bx.of hR
   have fz : ∀ i, wr.frozen? ⟨w.heap.size + 1, i, none⟩ = false := fun i => hR.free i
   have hl := hR.lt
   clear hb hP hR hall Hov HR
   subst hnone
   go_wp2
   exact get_ret (o := none) rfl _ (RVAt.flat _ _ _ _ i0 i0 (by decide) (by decide)) Hq.out.2 Hq.out.1 rfl rfl
  ·obtain ⟨k, rfl⟩ : ∃ k, j = k + 1 := ⟨j - 1, by omega⟩
   have ek : (((k + 1 : Nat) : Int)) - 1 = (k : Int) := by omega
   rw [ek]
   have hki0 : (0 : Int) ≤ (k : Int) := Int.natCast_nonneg _
   have hkl : k < l.length := by omega
   have hkv : k < vs.length := by omega
   have hki1 : (k : Int) < (l.length : Int) := by omega
   have hki2 : (k : Int) < (vs.length : Int) := by omega
   have hx := H7.out.2.1.at_ hkl
   have hy := H7.out.2.2.2.at_ hkv
   have heo : (l[k]).elem.Ok := Hok.out.1 _ (by simp [pel]; exact ⟨_, List.getElem_mem _, rfl⟩)
   have hpg := pairsV_get hkl hkv
   generalize l[k] = fx at *
   generalize vs[k] = vx at *
   generalize hcs : (xs.drop (k * 11)).take 11 = fcs at hx
   generalize hds : (ys.drop (k * 6)).take 6 = gcs at hy
   have HE2 := hide fun (W : World) (hb : Below w.heap.size w W) => specEqualElems_calls fx r W _ _ (hx.at_ hb) (HR.out W hb)
   have HV := hide fun (W : World) (hb : Below w.heap.size w W) => clean_calls vx W _ (hy.at_ hb)
   obtain ⟨b0, b1, b2, b3, b4, b5, b6, b7, b8, b9, ba, bb, bc, bd, be, bf, bg, bh, bi, rfl⟩ := hx.form
   obtain ⟨z0, z1, z2, z3, zA, zn, zc, yA, yn, yc, rfl⟩ := hy.form
   obtain ⟨rb, ro, rfl, hF, hc⟩ := rown_at H7.out.1 hkl hcs
   obtain ⟨sb, so, rfl, hG, hd⟩ := rown_at H7.out.2.2.1 hkv hds
   have ec := (bcell hb).1
   have q0 := (ec _ _ hF).trans (hc 0 _ rfl)
   have q1 := (ec _ _ hF).trans (hc 1 _ rfl)
   have q2 := (ec _ _ hF).trans (hc 2 _ rfl)
   have q3 := (ec _ _ hF).trans (hc 3 _ rfl)
   have q4 := (ec _ _ hF).trans (hc 4 _ rfl)
   have q5 := (ec _ _ hF).trans (hc 5 _ rfl)
   have q6 := (ec _ _ hF).trans (hc 6 _ rfl)
   have q7 := (ec _ _ hF).trans (hc 7 _ rfl)
   have q8 := (ec _ _ hF).trans (hc 8 _ rfl)
   have q9 := (ec _ _ hF).trans (hc 9 _ rfl)
   have q10 := (ec _ _ hF).trans (hc 10 _ rfl)
   rw [Nat.add_zero] at q0
   have hrb : rb < w.heap.size := hF
   have hsb : sb < w.heap.size := hG
   have Hd := hide (And.intro hG hd)
   have Hq := hide (And.intro hb (And.intro hP (And.intro hR (And.intro hall (And.intro hpg heo)))))
   have hwe : w.heap.size ≤ wr.heap.size := hb.size
   have hpl := hP.lt
   obtain ⟨bv, hbv⟩ : ∃ bv, E.eqv fx.elem r.elem = bv := ⟨_, rfl⟩
   rw [hbv] at HE2
   have Hbv := hide hbv
   obtain ⟨s0, s1, s2, s3, s4, s5, s6, s7, s8, s9, s10⟩ := hP.cells11
   clear hx hy hcs hds hc hd ec hF hG hb hP hR hall hpg heo hbv ek
   go_wp2_with fail
   go_still_tail 5, (by kernel_rfl)
   change wpList _ _ _ _ _ wr.drew
   go_wp2_with fail
   refine (HE2.out wr.drew (below_drew Hq.out.1)).mono ?_
   rintro en w3 ⟨rfl, hb3⟩
   have hb3' : Below wr.heap.size wr w3 := below_drew' hb3
   have hs3 : wr.heap.size ≤ w3.heap.size := hb3'.size
   have H3 := hide (And.intro (Hq.out.1.trans (hb3'.mono hwe)) (And.intro (Hq.out.2.1.below hb3' Hq.out.2.1.lt) (Hq.out.2.2.1.below hb3' Hq.out.2.2.1.lt)))
   clear hb3 hb3' HE2 s0 s1 s2 s3 s4 s5 s6 s7 s8 s9 s10 q0 q1 q2 q3 q4 q5 q6 q7 q8 q9 q10
   cases bv
   ·have hne : E.cmp fx.elem r.elem ≠ 0 := fun e0 => by
     have := (E.eqv_iff Hq.out.2.2.2.2.2 Hok.out.2).2 e0
     rw [Hbv.out] at this
     cases this
    have Hfin := hide (show LkInv w #[.int .i64 a0, .string a1, .slice a2 a3 a4, .slice a5 a6 a7, .int .i64 a8, .int .i64 a9, .float .f64 aa, .string ab, .slice ac ad ae, .slice af ag ah, .int .i64 ai] r.elem (pairsV l vs) (.int .i64 ((k : Int) - 1)) w3 from ⟨k, rfl, by rw [Hm.out]; omega, fun i p hi hp => by
     by_cases hik : i = k
     ·subst hik
      rw [Hq.out.2.2.2.2.1] at hp
      cases hp
      exact hne
     ·exact Hq.out.2.2.2.1 i p (by omega) hp, H3.out.1, H3.out.2.1, H3.out.2.2⟩)
    clear hne Hq H3 HV Hd
    go_wp2_with fail
    exact ⟨Hfin.out, by simp [intOf]⟩
   ·have hcmp := (E.eqv_iff Hq.out.2.2.2.2.2 Hok.out.2).1 Hbv.out
    have hsome : ov = some vx.tree := Hov.out.symm.trans (lookV_at Hq.out.2.2.2.2.1 hcmp fun i p hi hp => Hq.out.2.2.2.1 i p (by omega) hp)
    have ec3 := (bcell H3.out.1).1
    have y0 := (ec3 _ _ Hd.out.1).trans (Hd.out.2 0 _ rfl)
    have y1 := (ec3 _ _ Hd.out.1).trans (Hd.out.2 1 _ rfl)
    have y2 := (ec3 _ _ Hd.out.1).trans (Hd.out.2 2 _ rfl)
    have y3 := (ec3 _ _ Hd.out.1).trans (Hd.out.2 3 _ rfl)
    have y4 := (ec3 _ _ Hd.out.1).trans (Hd.out.2 4 _ rfl)
    have y5 := (ec3 _ _ Hd.out.1).trans (Hd.out.2 5 _ rfl)
    rw [Nat.add_zero] at y0
    clear hcmp ec3 Hd Hq Hbv Hov HR H7
    subst hsome
    go_wp2_with fail
    refine (HV.out w3 H3.out.1).mono ?_
    rintro en w5 ⟨cs, rfl, hcc, hb5⟩
    have hR5 := H3.out.2.2.below hb5 H3.out.2.2.lt
    have hbw := H3.out.1.trans (hb5.mono (by omega))
    obtain ⟨d0, d1, d2, d3, dA, dn, dc, eA, en, ec, rfl⟩ := hcc.form
    have hcc' := hcc.mono (G := fun b => w.heap.size + 2 ≤ b ∧ b < w5.heap.size) fun b hb => hb.elim (fun h => h.elim) fun h => ⟨by have := h.1; have := H3.out.2.2.lt; omega, h.2⟩
    obtain ⟨p0, p1, p2, p3, p4, p5⟩ := Bx.of hR5
    have fz : ∀ i, w5.frozen? ⟨w.heap.size + 1, i, none⟩ = false := fun i => hR5.free i
    have Hfin := hide (And.intro hcc' (And.intro hR5 hbw))
    clear hcc hcc' hR5 hbw hb5 HV y0 y1 y2 y3 y4 y5 H3
    go_wp2
    exact get_ret rfl _ Hfin.out.1 Hfin.out.2.1 Hfin.out.2.2 rfl rfl

set_option maxRecDepth 100000 in
set_option maxHeartbeats 8000000 in
theorem elemMapLaw {l : List REl} {vs : List RV} {r : REl} {cs : List Value} {A B : Option Addr} {c d : Nat} {w : World} (h : PathAt (Old w) w l A c) (hv : ValuesAt (Old w) w vs B d) (hr : ElemAt (Old w) w r cs) :
  Calls Tryz.prog 3 #[.slice A l.length c, .slice B vs.length d, .agg cs.toArray] w (LawPost w) := by
 have HZ := hide fun (W : World) (hb : Below w.heap.size w W) => zzFits13_calls r W cs (hr.at_ hb)
 have hl47 : l.length * 168 ≤ 140737488351232 := h.1
 have hv47 : vs.length * 88 ≤ 140737488351232 := hv.1
 have HM := hide fun (hok : POk (pel l)) (he : r.elem.Ok) (hn : l.length ≤ N38) (W : World) (hb : Below w.heap.size w W) => implElemMap_calls (h.at_ hb) (hv.at_ hb) (hr.at_ hb) hok he hn
 have HK := hide fun (hok : POk (pel l)) (he : r.elem.Ok) (W : World) (hb : Below w.heap.size w W) => lookup_calls (h.at_ hb) (hv.at_ hb) (hr.at_ hb) hok he
 have HO := hide fun (hok : POk (pel l)) (he : r.elem.Ok) => findV_mapV he (pairsV l vs) (pairsV_ok hok)
 obtain ⟨i9, hi9, hz9, hs9, hb9⟩ := info_parts elem_info
 have H0 := hide (And.intro h hr)
 obtain ⟨a0, a1, a2, a3, a4, a5, a6, a7, a8, a9, aa, ab, ac, ad, ae, af, ag, ah, ai, rfl⟩ := hr.form
 have hbx : Below w.heap.size w (w.alloc (.cells #[.int .i64 a0, .string a1, .slice a2 a3 a4, .slice a5 a6 a7, .int .i64 a8, .int .i64 a9, .float .f64 aa, .string ab, .slice ac ad ae, .slice af ag ah, .int .i64 ai] 29)) := (Below.refl _ _).alloc (Nat.le_refl _) _
 have hbox := Bk.new w 29 #[.int .i64 a0, .string a1, .slice a2 a3 a4, .slice a5 a6 a7, .int .i64 a8, .int .i64 a9, .float .f64 aa, .string ab, .slice ac ad ae, .slice af ag ah, .int .i64 ai]
 obtain ⟨w1, hw1⟩ : ∃ w1, w.alloc (.cells #[.int .i64 a0, .string a1, .slice a2 a3 a4, .slice a5 a6 a7, .int .i64 a8, .int .i64 a9, .float .f64 aa, .string ab, .slice ac ad ae, .slice af ag ah, .int .i64 ai] 29) = w1 := ⟨_, rfl⟩
 rw [hw1] at hbx hbox
 have Hb := hide hbx
 have Hbk := hide hbox
 obtain ⟨n, hn⟩ : ∃ n, l.length = n := ⟨_, rfl⟩
 obtain ⟨m, hm⟩ : ∃ m, vs.length = m := ⟨_, rfl⟩
 have Hn := hide (And.intro hn hm)
 rw [hn] at HM HK hl47
 rw [hm] at HM HK hv47
 rw [hn, hm]
 clear hbx hbox h hr hv hn hm
 by_cases hbig : 2147483647 < n
 ·have gi1 : (2147483647 : Int) < (n : Int) := by omega
  have gd1 : decide ((2147483647 : Int) < (n : Int)) = true := decide_eq_true gi1
  go_enter Tryz.func3, Tryz.ntmps3
  go_wp2_with fail
  try rw [hw1]
  clear hw1
  go_wp2
  go_ret
  exact ⟨rfl, Hb.out⟩
 have gi1 : ¬ (2147483647 : Int) < (n : Int) := by omega
 have gd1 : decide ((2147483647 : Int) < (n : Int)) = false := decide_eq_false gi1
 by_cases hbig2 : 2147483647 < m
 ·have gi2 : (2147483647 : Int) < (m : Int) := by omega
  have gd2 : decide ((2147483647 : Int) < (m : Int)) = true := decide_eq_true gi2
  go_enter Tryz.func3, Tryz.ntmps3
  go_wp2_with fail
  try rw [hw1]
  clear hw1
  go_wp2
  go_ret
  exact ⟨rfl, Hb.out⟩
 have gi2 : ¬ (2147483647 : Int) < (m : Int) := by omega
 have gd2 : decide ((2147483647 : Int) < (m : Int)) = false := decide_eq_false gi2
 have hn38 : n ≤ N38 := by unfold N38; omega
 go_enter Tryz.func3, Tryz.ntmps3
 go_upto_region 1 with fail
 try rw [hw1]
 clear hw1
 obtain ⟨s0, s1, s2, s3, s4, s5, s6, s7, s8, s9, s10⟩ := Hbk.out.cells11
 go_wp2_with fail
 refine (HZ.out _ Hb.out).mono ?_
 rintro e w2 ⟨⟨z, rfl⟩, hb2⟩
 have Hb2 := hide (Hb.out.trans (hb2.mono Hb.out.size))
 have Hbk2 := hide (Hbk.out.below hb2 Hbk.out.lt)
 clear hb2 s0 s1 s2 s3 s4 s5 s6 s7 s8 s9 s10 Hb Hbk HZ
 have Hb := Hb2
 have Hbk := Hbk2
 clear Hb2 Hbk2
 obtain ⟨s0, s1, s2, s3, s4, s5, s6, s7, s8, s9, s10⟩ := Hbk.out.cells11
 cases z
 ·go_wp2
  go_ret
  exact ⟨rfl, Hb.out⟩
 have hww : w.heap.size < w2.heap.size := Hbk.out.lt
 -- append(impl.Path{ask}, keys...)
 have hbA : Below w2.heap.size w2 (w2.alloc (.cells #[.int .i64 a0, .string a1, .slice a2 a3 a4, .slice a5 a6 a7, .int .i64 a8, .int .i64 a9, .float .f64 aa, .string ab, .slice ac ad ae, .slice af ag ah, .int .i64 ai] 29)) := (Below.refl _ _).alloc (Nat.le_refl _) _
 have hown0 := World.ownsRow_lit (base := w2.heap.size) (e := 29) (size := 11) w2 #[.int .i64 a0, .string a1, .slice a2 a3 a4, .slice a5 a6 a7, .int .i64 a8, .int .i64 a9, .float .f64 aa, .string ab, .slice ac ad ae, .slice af ag ah, .int .i64 ai] 1 (by simp) (by simp [maxLen]) (by simp)
 have hkA : Keeps (Old w) w (w2.alloc (.cells #[.int .i64 a0, .string a1, .slice a2 a3 a4, .slice a5 a6 a7, .int .i64 a8, .int .i64 a9, .float .f64 aa, .string ab, .slice ac ad ae, .slice af ag ah, .int .i64 ai] 29)) := Keeps.below (Hb.out.trans (hbA.mono Hb.out.size)) fun _ h => h
 obtain ⟨_, hl2, hl3, xs, hl4, hl5⟩ := H0.out.1
 have HA := hide (And.intro hbA (And.intro hown0 (And.intro (show Row (Old w) (w2.alloc (.cells #[.int .i64 a0, .string a1, .slice a2 a3 a4, .slice a5 a6 a7, .int .i64 a8, .int .i64 a9, .float .f64 aa, .string ab, .slice ac ad ae, .slice af ag ah, .int .i64 ai] 29)) 11 A n xs from by have := hl4.keeps hkA; rwa [Hn.out.1] at this) (And.intro (hl5.mono fun _ _ h => h.keeps hkA) (H0.out.2.keeps hkA)))))
 have Hone := hide (emap_ones hl5)
 rw [Hn.out.1] at hl2
 clear hbA hown0 hkA hl3 hl4 hl5
 go_wp2_with (at_builtin; go_loud (refine wpList_append_row _ rfl (.tmp 25) (.tmp 26) 22 rfl w2.heap.size 29 i9 _ 11 168 Tryz.underlying22 hi9 hz9 hs9 hb9 rfl (by omega) (.slice (some ⟨w2.heap.size, 0, none⟩) 1 1) 1 _ rfl HA.out.2.1 (Old w) A n c xs rfl HA.out.2.2.1 Hone.out (by omega) (by omega) (by rw [World.size_alloc]; omega) ?_))
 intro v3 w3 hown3 hg3 hat3
 have hst := old_step1 (w := w) (ls := [r]) (us := [.int .i64 a0, .string a1, .slice a2 a3 a4, .slice a5 a6 a7, .int .i64 a8, .int .i64 a9, .float .f64 aa, .string ab, .slice ac ad ae, .slice af ag ah, .int .i64 ai]) (Q := ElemAt) (fun h k => h.keeps k) (Cells.one HA.out.2.2.2.2 rfl) (Hb.out.trans (HA.out.1.mono Hb.out.size)) (fun b hb => by
  have e1 : w2.heap.size = b := Option.some.inj hb
  omega) hg3 HA.out.2.2.2.1
 obtain ⟨WA, wc, rfl, hwc1, hwc2⟩ := own_form hown3
 have hlen1 : (r :: l).length = 1 + n := by rw [List.length_cons, Hn.out.1]; omega
 have hwhole : PathAt (Old w3) w3 (r :: l) WA wc := ⟨by rw [hlen1]; unfold R47; omega, by rw [hlen1]; exact hwc1, hwc2, _, by rw [hlen1]; exact Row.of_own hown3 fun b hb => (hown3.lt b hb).2, hst.1.mono fun _ _ h => h.mono fun b hb => Nat.lt_of_lt_of_le hb hst.2.size⟩
 have HT := hide (tame_calls hwhole)
 rw [hlen1] at HT
 have H3 := hide (And.intro hst.2 (show Bk w3 w.heap.size 29 #[.int .i64 a0, .string a1, .slice a2 a3 a4, .slice a5 a6 a7, .int .i64 a8, .int .i64 a9, .float .f64 aa, .string ab, .slice ac ad ae, .slice af ag ah, .int .i64 ai] from (Hbk.out.alloc _).grown hg3 (fun e => by
  have e1 : w2.heap.size = w.heap.size := Option.some.inj e.symm
  omega)))
 clear hown3 hg3 hat3 hst hwhole hlen1 HA Hone s0 s1 s2 s3 s4 s5 s6 s7 s8 s9 s10 Hb Hbk hwc1 hwc2
 go_wp2_with fail
 refine HT.out.mono ?_
 rintro e w4 ⟨t, rfl, ho, hb4⟩
 have Ho := hide ho
 have Hb := hide (H3.out.1.trans (hb4.mono H3.out.1.size))
 have Hbk := hide (H3.out.2.below hb4 H3.out.2.lt)
 clear hb4 ho H3 HT
 obtain ⟨s0, s1, s2, s3, s4, s5, s6, s7, s8, s9, s10⟩ := Hbk.out.cells11
 cases t
 ·go_wp2
  go_ret
  exact ⟨rfl, Hb.out⟩
 have hall : POk (pel (r :: l)) := Ho.out (by first | trivial | rfl)
 have he : r.elem.Ok := hall r.elem (by simp [pel])
 have hok : POk (pel l) := fun z hz => hall z (by simp [pel] at hz ⊢; exact .inr hz)
 have HM1 := hide (HM.out hok he hn38)
 have HK1 := hide (HK.out hok he)
 rw [HO.out hok he] at HM1
 clear hall he hok HM HK HO Ho
 generalize lookV r.elem (pairsV l vs) = ov at *
 have hpl := Hbk.out.lt
 go_wp2_with fail
 refine (HM1.out _ Hb.out).mono ?_
 rintro e w5 ⟨d0, d1, d2, d3, dA, dn, dc, eA, en, ec, rfl, hg, hb5⟩
 have H5 := hide (And.intro (Hb.out.trans (hb5.mono Hb.out.size)) (And.intro (Hbk.out.below hb5 hpl) (hg.mono (G := Old w5) fun b hb => hb.2)))
 clear hb5 hg s0 s1 s2 s3 s4 s5 s6 s7 s8 s9 s10 Hb Hbk HM1
 have hw5 := H5.out.2.1.lt
 obtain ⟨bv, hbv⟩ : ∃ bv, Option.isSome ov = bv := ⟨_, rfl⟩
 rw [hbv]
 go_upto_region 6 with fail
 have hbX : Below w5.heap.size w5 (w5.alloc (.cells #[.int .i64 d0, .int .i64 d1, .float .f64 d2, .string d3, .slice dA dn dc, .slice eA en ec] 27)) := (Below.refl _ _).alloc (Nat.le_refl _) _
 have hX := Bk.new w5 27 #[.int .i64 d0, .int .i64 d1, .float .f64 d2, .string d3, .slice dA dn dc, .slice eA en ec]
 have hwx : (w5.alloc (.cells #[.int .i64 d0, .int .i64 d1, .float .f64 d2, .string d3, .slice dA dn dc, .slice eA en ec] 27)).heap.size = w5.heap.size + 1 := World.size_alloc _ _
 generalize World.alloc w5 _ = w6 at hbX hX hwx ⊢
 have H6 := hide (And.intro (H5.out.1.trans (hbX.mono H5.out.1.size)) (And.intro (H5.out.2.1.below hbX hw5) (And.intro (H5.out.2.2.at_ hbX) hX)))
 clear hbX hX H5
 obtain ⟨s0, s1, s2, s3, s4, s5, s6, s7, s8, s9, s10⟩ := H6.out.2.1.cells11
 go_wp2_with fail
 refine (HK1.out _ H6.out.1).mono ?_
 rintro e w7 ⟨f0, f1, f2, f3, fA, fn, fc, gA, gn, gc, rfl, hg, hb7⟩
 rw [hbv]
 have H7 := hide (And.intro (H6.out.1.trans (hb7.mono H6.out.1.size)) (And.intro (H6.out.2.2.1.at_ hb7) (And.intro (H6.out.2.2.2.below hb7 H6.out.2.2.2.lt) (hg.mono (G := Old w7) fun b hb => hb.2))))
 have hw7 := H7.out.2.2.1.lt
 clear hb7 hg s0 s1 s2 s3 s4 s5 s6 s7 s8 s9 s10 H6 HK1
 go_upto_region 7 with fail
 have hbX : Below w7.heap.size w7 (w7.alloc (.cells #[.int .i64 f0, .int .i64 f1, .float .f64 f2, .string f3, .slice fA fn fc, .slice gA gn gc] 27)) := (Below.refl _ _).alloc (Nat.le_refl _) _
 have hX := Bk.new w7 27 #[.int .i64 f0, .int .i64 f1, .float .f64 f2, .string f3, .slice fA fn fc, .slice gA gn gc]
 generalize World.alloc w7 _ = w8 at hbX hX ⊢
 have H8 := hide (And.intro (H7.out.1.trans (hbX.mono H7.out.1.size)) (And.intro (H7.out.2.2.1.below hbX hw7) hX))
 have HS := hide (sameValue_calls _ _ rfl w8 _ _ (H7.out.2.1.at_ hbX) (H7.out.2.2.2.at_ hbX))
 clear hbX hX H7
 obtain ⟨p0, p1, p2, p3, p4, p5⟩ := Bx.of H8.out.2.1
 obtain ⟨q0, q1, q2, q3, q4, q5⟩ := Bx.of H8.out.2.2
 cases bv
 ·go_wp2
  go_ret
  exact ⟨rfl, H8.out.1⟩
 ·go_wp2_with fail
  refine HS.out.mono ?_
  rintro e w9 ⟨rfl, hb9⟩
  have H9 := hide (H8.out.1.trans (hb9.mono H8.out.1.size))
  clear hb9 HS H8 p0 p1 p2 p3 p4 p5 q0 q1 q2 q3 q4 q5
  go_wp2
  go_ret
  exact ⟨rfl, H9.out⟩

end Go.Proofs.YtbicoknghdgahaaGreat

namespace Go.Proofs.YtbicoknghdgahaaGreat
open Go.RowKit Go.ChangeShapes Go.WideShapes

section
variable {H : Type} {enc : TypeId × Value → H} {w : World}
set_option maxRecDepth 100000 in
theorem open_Values {base : Nat} {v : Value} {d : DataW H} {ps : List MemPlace} (h : DataW.Trod enc Tryz.prog w 0 (fun _ => true) true 23 v d ps) (hw : Small 23 d) (hok : Value.okWide Tryz.prog w .any base 23 v) : ∃ A l c, v = .slice A l.length c ∧ ValuesAt (Old w) w l A c := by
 obtain ⟨fuel, hf⟩ := h
 obtain ⟨A, l, c, xs, e, h1, h2, h3, h4, h5⟩ := open_values hf hw
 obtain ⟨a, n, m, rfl⟩ := okWide_slice Tryz.underlying23 hok
 simp only [Value.cells, List.cons.injEq, and_true] at e
 exact ⟨A, l, c, e, h3, h1, h2, xs, h4, h4.1, h5⟩
end
end Go.Proofs.YtbicoknghdgahaaGreat
