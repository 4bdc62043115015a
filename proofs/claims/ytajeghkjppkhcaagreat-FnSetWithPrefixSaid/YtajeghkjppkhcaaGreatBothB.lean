/-
  Several texts in one: Both, SpecBelow.
-/
import Derived.Test.YtajeghkjppkhcaaGreatWpA
import Derived.Test.YtajeghkjppkhcaaGreatAlgM
set_option linter.unusedVariables false
set_option linter.unusedSimpArgs false
/-!
  laws.both, spec.Union: rows of paths joined.
-/

namespace Go.Proofs.YtajeghkjppkhcaaGreat
open Go.RowKit
attribute [local go_sem] run_store_float

/-- a row appended; all that it holds is old -/
theorem old_step {α : Type} {k : Nat} {Q : (Nat → Prop) → World → α → List Value → Prop} (qk : ∀ {F : Nat → Prop} {w w' : World} {a : α} {cs : List Value}, Q F w a cs → Keeps F w w' → Q F w' a cs)
    {w V W3 : World} {ls add : List α} {us news : List Value} {row : Option Nat} (hc : Cells k (Q (Old w) V) ls us) (hb : Below w.heap.size w V) (hlo : ∀ b, row = some b → w.heap.size ≤ b) (hg : V.grownBy W3 row) (hadd : Cells k (Q (Old w) V) add news) :
    Cells k (Q (Old w) W3) (ls ++ add) (us ++ news) ∧ Below w.heap.size w W3 := by
  have hk : Keeps (Old w) V W3 := fun b hb' => hg.block b (Nat.lt_of_lt_of_le hb' hb.size) fun e => by have h1 := hlo b e.symm; have hb' : b < w.heap.size := hb'; omega
  exact ⟨Cells.append (hc.mono fun _ _ h => qk h hk) (hadd.mono fun _ _ h => qk h hk), hb.grown hg hb.size hlo⟩

end Go.Proofs.YtajeghkjppkhcaaGreat

/-!
  spec.Below. Printed by genspecbelow.py.
-/

namespace Go.Proofs.YtajeghkjppkhcaaGreat
open Go.RowKit
attribute [local go_sem] run_store_float

/-- a path's slice without its first step -/
theorem PathAt.tail_ {F : Nat → Prop} {w : World} {r : REl} {l : List REl} {b o c : Nat} (h : PathAt F w (r :: l) (some ⟨b, o, none⟩) c) : PathAt F w l (some ⟨b, o + 11, none⟩) (c - 1) := by
  obtain ⟨h1, h2, h3, xs, h4, h5⟩ := h
  simp only [List.length_cons] at h1 h2 h4
  refine ⟨by omega, by omega, by omega, xs.drop (1 * 11), ?_, ?_⟩
  · have := h4.drop_at (m := 1) (by omega)
    rwa [Nat.add_sub_cancel] at this
  · exact h5.drop_ 1

/-- at the head of a round of spec.Below -/
def BlwInv (w w1 : World) (e : E) (ls : List (List REl)) (s5 s10 : Value) (W : World) : Prop :=
  ∃ (k : Nat) (us : List Value), s10 = .int .i64 (k : Int) ∧ k ≤ ls.length ∧ W.ownsRow (w.heap.size + 1) 22 1 s5 ((ls.take k).filterMap (belR e)).length us ∧ Cells 1 (PQ (Old w) W) ((ls.take k).filterMap (belR e)) us ∧ Below (w.heap.size + 1) w1 W

set_option maxRecDepth 100000 in
set_option maxHeartbeats 8000000 in
theorem below_calls {ls : List (List REl)} {r : REl} {cs : List Value} {A : Option Addr} {c : Nat} {w : World} (h : PathsAt (Old w) w ls A c) (hr : ElemAt (Old w) w r cs) :
    Calls Tryz.prog 37 #[.slice A ls.length c, .agg cs.toArray] w (fun en w' => ∃ B d, en = .returned (.slice B (ls.filterMap (belR r.elem)).length d) ∧ PathsAt (Old w') w' (ls.filterMap (belR r.elem)) B d ∧ Below w.heap.size w w') := by
  obtain ⟨h1, h2, h3, xs, h4, h5⟩ := h
  have h1' : ls.length * 24 ≤ 140737488351232 := h1
  obtain ⟨i9, hi9, hz9, hs9, hb9⟩ := info_parts paths_info
  obtain ⟨b0, b1, b2, b3, b4, b5, b6, b7, b8, b9, ba, bb, bc, bd, be, bf, bg, bh, bi, rfl⟩ := hr.form
  have hbx : Below w.heap.size w (w.alloc (.cells #[.int .i64 b0, .string b1, .slice b2 b3 b4, .slice b5 b6 b7, .int .i64 b8, .int .i64 b9, .float .f64 ba, .string bb, .slice bc bd be, .slice bf bg bh, .int .i64 bi] 33)) := (Below.refl _ _).alloc (Nat.le_refl _) _
  have hbox := Bk.new w 33 #[.int .i64 b0, .string b1, .slice b2 b3 b4, .slice b5 b6 b7, .int .i64 b8, .int .i64 b9, .float .f64 ba, .string bb, .slice bc bd be, .slice bf bg bh, .int .i64 bi]
  obtain ⟨w1, hw1⟩ : ∃ w1, w.alloc (.cells #[.int .i64 b0, .string b1, .slice b2 b3 b4, .slice b5 b6 b7, .int .i64 b8, .int .i64 b9, .float .f64 ba, .string bb, .slice bc bd be, .slice bf bg bh, .int .i64 bi] 33) = w1 := ⟨_, rfl⟩
  rw [hw1] at hbx hbox
  have hsz1 : w1.heap.size = w.heap.size + 1 := by rw [← hw1, World.size_alloc]
  have H7 := hide (And.intro h4 (And.intro h5 (And.intro hr (And.intro hbx hbox))))
  have Hsz := hide hsz1
  clear h1 h4 h5 hr hbx hbox hsz1
  go_enter Tryz.func37, Tryz.ntmps37
  go_wp2_with fail
  try rw [hw1]
  clear hw1
  go_loopw [5, 10] (fun s5 s10 W => BlwInv w w1 r.elem ls s5 s10 W) (fun _ s _ => ls.length - (intOf s).toNat)
  case atStart => exact ⟨0, [], rfl, Nat.zero_le _, World.ownsRow_nil _ _ _ _, Cells.nil_, Below.refl _ _⟩
  case round =>
    obtain ⟨k, us, rfl, hk, hown, hus, hb⟩ := hrel
    by_cases hlt : k < ls.length
    · have hki0 : (0 : Int) ≤ (k : Int) := Int.natCast_nonneg _
      have hki1 : (k : Int) < (ls.length : Int) := by omega
      have hx := H7.out.2.1.at_ hlt
      have hsn : (ls.take (k + 1)).filterMap (belR r.elem) = (ls.take k).filterMap (belR r.elem) ++ (belR r.elem ls[k]).toList := by
        rw [List.take_succ_eq_append_getElem hlt, List.filterMap_append]
        congr 1
      have hlk : ((ls.take k).filterMap (belR r.elem)).length ≤ k := Nat.le_trans (List.length_filterMap_le ..) (by rw [List.length_take]; omega)
      generalize ls[k] = x at *
      generalize (ls.take k).filterMap (belR r.elem) = S at *
      obtain ⟨n, hn⟩ : ∃ n, S.length = n := ⟨_, rfl⟩
      rw [hn] at hown hlk
      have Hn := hide hn
      obtain ⟨oA, oc, rfl, hoc1, hoc2⟩ := own_form hown
      obtain ⟨B, d, ecs, hx⟩ := hx
      obtain ⟨rb, ro, rfl, hF, hc⟩ := rown_at H7.out.1 hlt ecs
      have hbw : Below w.heap.size w wr := H7.out.2.2.2.1.trans (hb.mono (by omega))
      have m0 := ((bcell hbw).1 _ _ hF).trans (hc 0 _ rfl)
      rw [Nat.mul_one, Nat.add_zero] at m0
      have hrb : rb < w.heap.size := hF
      obtain ⟨wo, hwo⟩ : ∃ W, W = wr := ⟨_, rfl⟩
      subst hwo
      have hwe : w.heap.size + 1 ≤ wo.heap.size := by have := hb.size; have := Hsz.out; omega
      have hx47 : x.length * 168 ≤ 140737488351232 := hx.1
      have hbe := H7.out.2.2.2.2.below hb (by omega)
      have hDone : ∀ W, Below wo.heap.size wo W → (belR r.elem x = none) → W.ownsRow (w.heap.size + 1) 22 1 (.slice oA n oc) ((ls.take (k + 1)).filterMap (belR r.elem)).length us ∧ Cells 1 (PQ (Old w) W) ((ls.take (k + 1)).filterMap (belR r.elem)) us ∧ Below (w.heap.size + 1) w1 W := by
        intro W hW hno
        rw [hsn, hno, Option.toList_none, List.append_nil, hn]
        exact ⟨ownsRow_below hown hW (Nat.le_refl _), hus.mono fun a cs h => PQ.keeps h (Keeps.below hW fun b hb => by have hb : b < w.heap.size := hb; omega), hb.trans (hW.mono (by have := Hsz.out; omega))⟩
      by_cases hx1 : x.length ≤ 1
      · have hxi : ¬ (1 : Int) < (x.length : Int) := by omega
        have hxd : decide ((1 : Int) < (x.length : Int)) = false := decide_eq_false hxi
        have hno : belR r.elem x = none := by
          match x, hx1 with
          | [], _ => rfl
          | [_], _ => rfl
        have Hfin := hide (hDone wo.drew (below_drew (Below.refl _ _)) hno)
        clear hown hus hb hx ecs hc hF hsn hn hDone hno hbw hbe
        go_wp2_with fail
        obtain ⟨SS, hSS⟩ : ∃ S : World → Prop, (fun _ => True) = S := ⟨_, rfl⟩
        have hS0 : SS wo.drew := by rw [← hSS]; trivial
        refine wp_region_head 9 SS (by rfl) (by kernel_rfl) ?_
        refine HT.take 0 (v := ?_) rfl (by kernel_rfl) (fun _ _ _ h => h) (Or.inl ⟨by rfl, ?_⟩) (by assumption) ?_
        rotate_left
        · intro W hSw; go_simp; with_reducible rfl
        simp only [Act.put, List.setIfInBounds_toArray, List.set_cons_zero, List.set_cons_succ]
        refine HT.take 1 (v := ?_) rfl (by kernel_rfl) (fun _ _ _ h => h) (Or.inl ⟨by rfl, ?_⟩) (by assumption) ?_
        rotate_left
        · intro W hSw; go_simp; with_reducible rfl
        simp only [Act.put, List.setIfInBounds_toArray, List.set_cons_zero, List.set_cons_succ]
        refine HT.take 2 (v := ?_) rfl (by kernel_rfl) (fun _ _ _ h => h) (Or.inl ⟨by rfl, ?_⟩) (by assumption) ?_
        rotate_left
        · intro W hSw; go_simp; with_reducible rfl
        simp only [Act.put, List.setIfInBounds_toArray, List.set_cons_zero, List.set_cons_succ]
        refine HT.take 3 (v := ?_) rfl (by kernel_rfl) (fun _ _ _ h => h) (Or.inl ⟨by rfl, ?_⟩) (by assumption) ?_
        rotate_left
        · intro W hSw; go_simp; with_reducible rfl
        simp only [Act.put, List.setIfInBounds_toArray, List.set_cons_zero, List.set_cons_succ]
        refine HT.take 4 (v := undef) rfl (by kernel_rfl) (fun _ _ _ h => h) (Or.inr ⟨by rfl, rfl⟩) (by assumption) ?_
        simp only [Act.put, List.setIfInBounds_toArray, List.set_cons_zero, List.set_cons_succ]
        refine HT.take 5 (v := undef) rfl (by kernel_rfl) (fun _ _ _ h => h) (Or.inr ⟨by rfl, rfl⟩) (by assumption) ?_
        simp only [Act.put, List.setIfInBounds_toArray, List.set_cons_zero, List.set_cons_succ]
        refine HT.take 6 (v := undef) rfl (by kernel_rfl) (fun _ _ _ h => h) (Or.inr ⟨by rfl, rfl⟩) (by assumption) ?_
        simp only [Act.put, List.setIfInBounds_toArray, List.set_cons_zero, List.set_cons_succ]
        refine HT.take 7 (v := undef) rfl (by kernel_rfl) (fun _ _ _ h => h) (Or.inr ⟨by rfl, rfl⟩) (by assumption) ?_
        simp only [Act.put, List.setIfInBounds_toArray, List.set_cons_zero, List.set_cons_succ]
        refine HT.take 8 (v := undef) rfl (by kernel_rfl) (fun _ _ _ h => h) (Or.inr ⟨by rfl, rfl⟩) (by assumption) ?_
        simp only [Act.put, List.setIfInBounds_toArray, List.set_cons_zero, List.set_cons_succ]
        refine HT.done (by kernel_rfl) ?_
        simp only [List.drop_succ_cons, List.drop_zero]
        change wpList _ _ _ _ _ wo.drew
        clear hS0 hSS SS
        go_wp2_with fail
        exact ⟨⟨k + 1, us, by go_num, by omega, Hfin.out.1, Hfin.out.2.1, Hfin.out.2.2⟩, by simp [intOf]; omega⟩
      have hxi : (1 : Int) < (x.length : Int) := by omega
      have hxd : decide ((1 : Int) < (x.length : Int)) = true := decide_eq_true hxi
      obtain ⟨x0, y0, xt, rfl⟩ : ∃ x0 y0 xt, x = x0 :: y0 :: xt := by
        match x, hx1 with
        | [], h => simp at h
        | [_], h => simp at h
        | x0 :: y0 :: xt, _ => exact ⟨x0, y0, xt, rfl⟩
      have hbel : belR r.elem (x0 :: y0 :: xt) = if E.eqv x0.elem r.elem = true then some (y0 :: xt) else none := rfl
      have hx' := hx
      obtain ⟨hx_1, hx_2, hx_3, ys, hx_4, hx_5⟩ := hx
      have hy := hx_5.at_ (i := 0) (by simp)
      rw [show (x0 :: y0 :: xt)[0] = x0 from rfl] at hy
      generalize hcs : (ys.drop (0 * 11)).take 11 = fcs at hy
      obtain ⟨a0, a1, a2, a3, a4, a5, a6, a7, a8, a9, aa, ab, ac, ad, ae, af, ag, ah, ai, rfl⟩ := hy.form
      obtain ⟨qb, qo, rfl, hG, hd⟩ := rown_at hx_4 (by simp) hcs
      have htail := hx'.tail_
      clear hx'
      have ec := (bcell hbw).1

      have q0 := (ec _ _ hG).trans (hd 0 _ rfl)
      have q1 := (ec _ _ hG).trans (hd 1 _ rfl)
      have q2 := (ec _ _ hG).trans (hd 2 _ rfl)
      have q3 := (ec _ _ hG).trans (hd 3 _ rfl)
      have q4 := (ec _ _ hG).trans (hd 4 _ rfl)
      have q5 := (ec _ _ hG).trans (hd 5 _ rfl)
      have q6 := (ec _ _ hG).trans (hd 6 _ rfl)
      have q7 := (ec _ _ hG).trans (hd 7 _ rfl)
      have q8 := (ec _ _ hG).trans (hd 8 _ rfl)
      have q9 := (ec _ _ hG).trans (hd 9 _ rfl)
      have q10 := (ec _ _ hG).trans (hd 10 _ rfl)
      rw [Nat.zero_mul, Nat.add_zero] at q0
      simp only [Nat.zero_mul, Nat.zero_add] at q1 q2 q3 q4 q5 q6 q7 q8 q9 q10
      obtain ⟨b_0, b_1, b_2, b_3, b_4, b_5, b_6, b_7, b_8, b_9, b_10⟩ := hbe.cells11
      have hqb : qb < w.heap.size := hG
      obtain ⟨xn, hxn⟩ : ∃ xn, (x0 :: y0 :: xt).length = xn := ⟨_, rfl⟩
      have hxn1 : (y0 :: xt).length = xn - 1 := by rw [← hxn]; simp
      have hxn2 : 2 ≤ xn := by rw [← hxn]; simp
      have hxi0 : (0 : Int) < (xn : Int) := by omega
      have hxn0 : 0 < xn := by omega
      rw [hxn] at hxi hxd hx47 hx_2 m0
      obtain ⟨v, hv⟩ : ∃ v, E.eqv x0.elem r.elem = v := ⟨_, rfl⟩
      have HC := hide fun (W : World) (hb : Below w.heap.size w W) => specEqualElems_calls x0 r W _ _ (hy.at_ hb) (H7.out.2.2.1.at_ hb)
      rw [hv] at HC hbel
      have Hd := hide (fun hno => hDone wo (Below.refl _ _) hno)
      have HD := hide (fun (W : World) (hW : Below wo.heap.size wo W) (hno : v = false) => hDone W hW (by rw [hbel, hno]; rfl))
      have Hq := hide (And.intro hown (And.intro hus (And.intro hb (And.intro hbw (And.intro htail (And.intro hsn hbel))))))
      have Hx := hide (And.intro hxn hxn1)
      clear hown hus hb hbw htail hsn hbel hDone hy hcs hd hc ec hF hG hbe ecs hxn hxn1 hv hn Hd
      go_wp2_with fail
      go_still_tail 8, (by kernel_rfl)
      change wpList _ _ _ _ _ wo.drew
      go_wp2_with fail
      refine (HC.out wo.drew (below_drew Hq.out.2.2.2.1)).mono ?_
      rintro e w2 ⟨rfl, hb2⟩
      have hb2' : Below wo.heap.size wo w2 := below_drew' hb2
      have H2 := hide hb2'
      have hs2 : wo.heap.size ≤ w2.heap.size := hb2'.size
      clear hb2 hb2' q0 q1 q2 q3 q4 q5 q6 q7 q8 q9 q10 b_0 b_1 b_2 b_3 b_4 b_5 b_6 b_7 b_8 b_9 b_10 HC
      cases v
      · have Hfin := hide (HD.out w2 H2.out rfl)
        clear HD Hq
        go_wp2_with fail
        exact ⟨⟨k + 1, us, by go_num, by omega, Hfin.out.1, Hfin.out.2.1, Hfin.out.2.2⟩, by simp [intOf]; omega⟩
      · clear HD
        have hd1 : d - 1 + 1 = d := by omega
        go_wp2_with (at_builtin; go_loud (refine wpList_append_row _ rfl (.tmp 24) (.tmp 27) 39 rfl (w.heap.size + 1) 22 i9 _ 1 24 Tryz.underlying39 hi9 hz9 hs9 hb9 rfl (by omega) (.slice oA n oc) n us rfl ((ownsRow_below Hq.out.1 H2.out (Nat.le_refl _)).alloc _) (fun _ => True) (some ⟨w2.heap.size, 0, none⟩) 1 1 [.slice (some ⟨qb, qo + 11, none⟩) (xn - 1) (d - 1)] rfl (Row.of_bkp (Bk.new w2 22 ([.slice (some ⟨qb, qo + 11, none⟩) (xn - 1) (d - 1)] : List Value).toArray) rfl trivial) (by simp [Value.oneCell']) (by omega) (by omega) (by rw [World.size_alloc]; omega) ?_))
        intro out' w3 hown3 hg3 hat3
        have hlo := Hq.out.1.lt
        have hb2w : Below w.heap.size w w2 := Hq.out.2.2.2.1.trans (H2.out.mono Hq.out.2.2.2.1.size)
        have hb2a : Below w.heap.size w (w2.alloc (.cells #[.slice (some ⟨qb, qo + 11, none⟩) (xn - 1) (d - 1)] 22)) := hb2w.alloc hb2w.size _
        have hkA : Keeps (Old w) wo (w2.alloc (.cells #[.slice (some ⟨qb, qo + 11, none⟩) (xn - 1) (d - 1)] 22)) := Keeps.below (H2.out.alloc (Nat.le_trans (Nat.le_refl _) hs2) _) fun b hb => by have hb : b < w.heap.size := hb; omega
        have hst := old_step (w := w) (Q := PQ) (add := [y0 :: xt]) (fun h k => h.keeps k) (Hq.out.2.1.mono fun _ _ h => PQ.keeps h hkA) hb2a (fun b hb => by have := (hlo b hb).1; omega) hg3 (Cells.one ⟨some ⟨qb, qo + 11, none⟩, d - 1, by rw [Hx.out.2], Hq.out.2.2.2.2.1.keeps (Keeps.below hb2a fun _ h => h)⟩ rfl)
        have hb3 : Below (w.heap.size + 1) w1 w3 := by
          have q1 := Hq.out.2.2.1.trans (H2.out.mono (by have := Hsz.out; omega))
          exact (q1.alloc (by omega) _).grown hg3 (by rw [World.size_alloc]; omega) fun k e => (hlo k e).1
        have hlen : ((ls.take (k + 1)).filterMap (belR r.elem)).length = n + 1 := by rw [Hq.out.2.2.2.2.2.1, Hq.out.2.2.2.2.2.2, if_pos trivial]; simp [Hn.out]
        have hcel : Cells 1 (PQ (Old w) w3) ((ls.take (k + 1)).filterMap (belR r.elem)) (us ++ [.slice (some ⟨qb, qo + 11, none⟩) (xn - 1) (d - 1)]) := by
          rw [Hq.out.2.2.2.2.2.1, Hq.out.2.2.2.2.2.2, if_pos trivial]
          exact hst.1
        obtain ⟨nA, nc, rfl, _, _⟩ := own_form hown3
        have Hfin := hide (And.intro hown3 (And.intro hcel (And.intro hb3 hlen)))
        clear hown3 hg3 hat3 hlo hb2w hb2a hkA hst hb3 hlen hcel Hq H2 Hx hd1
        go_wp2_with fail
        exact ⟨⟨k + 1, _, by go_num, by omega, by rw [Hfin.out.2.2.2]; exact Hfin.out.1, Hfin.out.2.1, Hfin.out.2.2.1⟩, by simp [intOf]; omega⟩

    · have hke : k = ls.length := by omega
      subst hke
      have hki1 : ¬ ((ls.length : Nat) : Int) < (ls.length : Int) := by omega
      rw [List.take_of_length_le (by omega)] at hus hown
      have hll : (ls.filterMap (belR r.elem)).length ≤ ls.length := List.length_filterMap_le ..
      obtain ⟨oA, oc, rfl, hc1, hc2⟩ := own_form hown
      have hlt2 := hown.lt
      have hbw : Below w.heap.size w wr := H7.out.2.2.2.1.trans (hb.mono (by omega))
      have hfin : PathsAt (Old wr) wr (ls.filterMap (belR r.elem)) oA oc := ⟨by unfold R47; omega, hc1, hc2, us, Row.of_own hown fun b hb => (hlt2 b hb).2, hus.mono fun a cs h => PQ.mono h fun b hb => Nat.lt_of_lt_of_le hb hbw.size⟩
      have H3 := hide (And.intro hbw hfin)
      clear hb hown hus hlt2 hc1 hc2 hfin hll hbw
      go_wp2
      go_ret
      exact ⟨oA, oc, rfl, H3.out.2, H3.out.1⟩

end Go.Proofs.YtajeghkjppkhcaaGreat
