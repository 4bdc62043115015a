/-
  Several texts in one: PathOk, LawSetWithPrefix.
-/
import Derived.Test.YtajeghkjppkhcaaGreatPathMC
import Derived.Test.YtajeghkjppkhcaaGreatElemOO
import Derived.Test.YtajeghkjppkhcaaGreatBothB
set_option linter.unusedVariables false
set_option linter.unusedSimpArgs false
/-!
  spec.OrderlyPaths, laws.tame.
-/

namespace Go.Proofs.YtajeghkjppkhcaaGreat
open Go.RowKit
attribute [local go_sem] run_store_float

/-- at the head of a round over paths, or over the steps of one -/
def OPInv {α : Type} (w : World) (ls : List α) (ok : α → Prop) (s : Value) (W : World) : Prop := ∃ k : Nat, s = .int .i64 (k : Int) ∧ k ≤ ls.length ∧ (∀ (i : Nat) l, i < k → ls[i]? = some l → ok l) ∧ Below w.heap.size w W

set_option maxRecDepth 100000 in
set_option maxHeartbeats 4000000 in
theorem orderlyPaths_calls {ls : List (List REl)} {A : Option Addr} {c : Nat} {w : World} (h : PathsAt (Old w) w ls A c) :
    Calls Tryz.prog 25 #[.slice A ls.length c] w (OrdPost (∀ l ∈ ls, POk (pel l)) w) := by
  obtain ⟨h1, h2, h3, xs, h4, h5⟩ := h
  have h1' : ls.length * 24 ≤ 140737488351232 := h1
  have H7 := hide (And.intro h4 h5)
  clear h1 h4 h5
  go_enter Tryz.func25, Tryz.ntmps25
  go_wp2_with fail
  go_loopw [9] (fun s W => OPInv w ls (fun l => POk (pel l)) s W) (fun s _ => ls.length - (intOf s).toNat)
  case atStart => exact ⟨0, rfl, Nat.zero_le _, fun i l h => by omega, Below.refl _ _⟩
  case round =>
    obtain ⟨k, rfl, hk, hall, hb⟩ := hrel
    by_cases hlt : k < ls.length
    · have hki0 : (0 : Int) ≤ (k : Int) := Int.natCast_nonneg _
      have hki1 : (k : Int) < (ls.length : Int) := by omega
      have hx := H7.out.2.at_ hlt
      have hxk : ls[k]? = some ls[k] := List.getElem?_eq_getElem hlt
      generalize ls[k] = l at *
      obtain ⟨B, d, ecs, hl⟩ := hx
      obtain ⟨rb, ro, rfl, hF, hc⟩ := rown_at H7.out.1 hlt ecs
      have q0 := ((bcell hb).1 _ _ hF).trans (hc 0 _ rfl)
      rw [Nat.mul_one, Nat.add_zero] at q0
      have hrb : rb < w.heap.size := hF
      obtain ⟨g1, g2, g3, ys, g4, g5⟩ := hl
      have g1' : l.length * 168 ≤ 140737488351232 := g1
      have HL := hide (And.intro g4 g5)
      have Hb := hide (And.intro hb (And.intro hall hxk))
      clear hb hall hxk hc hF ecs g1 g4 g5
      go_wp2_with fail
      go_loopw [15] (fun s W => OPInv w l (fun r => r.elem.Ok) s W) (fun s _ => l.length - (intOf s).toNat)
      case atStart => exact ⟨0, rfl, Nat.zero_le _, fun i l h => by omega, Hb.out.1⟩
      case round =>
        obtain ⟨j, rfl, hj, hal, hb⟩ := hrel
        clear q0
        by_cases hltj : j < l.length
        · have hji0 : (0 : Int) ≤ (j : Int) := Int.natCast_nonneg _
          have hji1 : (j : Int) < (l.length : Int) := by omega
          have hx := HL.out.2.at_ hltj
          have hxj : l[j]? = some l[j] := List.getElem?_eq_getElem hltj
          generalize l[j] = fx at *
          generalize hcs : (ys.drop (j * 11)).take 11 = fcs at hx
          obtain ⟨a0, a1, a2, a3, a4, a5, a6, a7, a8, a9, aa, ab, ac, ad, ae, af, ag, ah, ai, rfl⟩ := hx.form
          obtain ⟨sb, so, rfl, hG, hd⟩ := rown_at HL.out.1 hltj hcs
          have ec := (bcell hb).1
          have m0 := (ec _ _ hG).trans (hd 0 _ rfl)
          have m1 := (ec _ _ hG).trans (hd 1 _ rfl)
          have m2 := (ec _ _ hG).trans (hd 2 _ rfl)
          have m3 := (ec _ _ hG).trans (hd 3 _ rfl)
          have m4 := (ec _ _ hG).trans (hd 4 _ rfl)
          have m5 := (ec _ _ hG).trans (hd 5 _ rfl)
          have m6 := (ec _ _ hG).trans (hd 6 _ rfl)
          have m7 := (ec _ _ hG).trans (hd 7 _ rfl)
          have m8 := (ec _ _ hG).trans (hd 8 _ rfl)
          have m9 := (ec _ _ hG).trans (hd 9 _ rfl)
          have m10 := (ec _ _ hG).trans (hd 10 _ rfl)
          rw [Nat.add_zero] at m0
          have hsb : sb < w.heap.size := hG
          have HO := hide fun (W : World) (hb : Below w.heap.size w W) => orderlyElem_calls fx W _ (hx.at_ hb)
          have Hb2 := hide (And.intro hb (And.intro hal hxj))
          clear hb hal hxj hx hcs hd ec hG
          go_wp2_with fail
          have hbA : Below w.heap.size w (wr.alloc (.cells #[.int .i64 a0, .string a1, .slice a2 a3 a4, .slice a5 a6 a7, .int .i64 a8, .int .i64 a9, .float .f64 aa, .string ab, .slice ac ad ae, .slice af ag ah, .int .i64 ai] 33)) := Hb2.out.1.alloc Hb2.out.1.size _
          generalize World.alloc wr _ = W2 at hbA ⊢
          refine (HO.out W2 hbA).mono ?_
          rintro e w2 ⟨b, rfl, hbo, hb2⟩
          have H2 := hide (And.intro (hbA.trans (hb2.mono hbA.size)) hbo)
          clear hbA hb2 hbo m0 m1 m2 m3 m4 m5 m6 m7 m8 m9 m10 HO
          cases b
          · go_wp2
            go_ret
            exact ⟨false, rfl, (fun h => by cases h), H2.out.1⟩
          · go_wp2_with fail
            refine ⟨⟨j + 1, by go_num, by omega, fun i y hi hy => ?_, H2.out.1⟩, by simp [intOf]; omega⟩
            by_cases hij : i = j
            · subst hij
              have := Hb2.out.2.2
              rw [hy] at this
              cases this
              exact H2.out.2 (by first | trivial | rfl)
            · exact Hb2.out.2.1 i y (by omega) hy
        · have hje : ¬ (j : Int) < (l.length : Int) := by omega
          have hok : POk (pel l) := fun e he => by
            obtain ⟨r, hr, rfl⟩ := List.mem_map.1 he
            obtain ⟨i, hi, e⟩ := List.getElem_of_mem hr
            exact hal i r (by omega) (by rw [← e]; exact List.getElem?_eq_getElem hi)
          have H2 := hide (And.intro hb hok)
          clear hb hal hok
          go_wp2_with fail
          refine ⟨⟨k + 1, by go_num, by omega, fun i y hi hy => ?_, H2.out.1⟩, by simp [intOf]; omega⟩
          by_cases hik : i = k
          · subst hik
            have := Hb.out.2.2
            rw [hy] at this
            cases this
            exact H2.out.2
          · exact Hb.out.2.1 i y (by omega) hy
    · have hki1 : ¬ ((k : Nat) : Int) < (ls.length : Int) := by omega
      have hok : ∀ l ∈ ls, POk (pel l) := fun l hl => by
        obtain ⟨i, hi, e⟩ := List.getElem_of_mem hl
        exact hall i l (by omega) (by rw [← e]; exact List.getElem?_eq_getElem hi)
      have H2 := hide (And.intro hb hok)
      clear hb hall hok
      go_wp2
      go_ret
      exact ⟨true, rfl, fun _ => H2.out.2, H2.out.1⟩

end Go.Proofs.YtajeghkjppkhcaaGreat

/-!
  The law FnSetWithPrefix, of every list of paths and every step: it answers true and leaves what stood. No condition. Printed by genlawwp.py.
-/

namespace Go.Proofs.YtajeghkjppkhcaaGreat
open Go.RowKit
attribute [local go_sem] run_store_float

theorem pels_back {ps : List (List E)} (h : ∀ p ∈ ps, PWS p) : pels (ps.map (List.map E.toREl)) = ps := pelsP_back h
theorem pels_all {ls : List (List REl)} {P : List E → Prop} (h : ∀ l ∈ ls, P (pel l)) : ∀ p ∈ pels ls, P p := fun p hp => by
  obtain ⟨l, hl, rfl⟩ := List.mem_map.1 hp
  exact h l hl
theorem specS_pws1 {ls : List (List REl)} (h : ∀ p ∈ pels ls, POk p) : ∀ p ∈ specS (pels ls), PWS p := fun p hp => pels_pws (specS_mem h hp).1
theorem sub_pws {ls : List (List REl)} {e : E} : ∀ p ∈ (subK e (setP (pels ls))).paths, PWS p := paths_all (subK_all (setP_all fun p hp => pels_pws hp))
theorem wp_lists {ls : List (List REl)} (h : ∀ p ∈ pels ls, POk p) {e : E} (he : e.Ok) :
    (∀ p ∈ pels ((subK e (setP (pels ls))).paths.map (List.map E.toREl)), POk p) ∧ (∀ p ∈ pels (((specS (pels ls)).map (List.map E.toREl)).filterMap (belR e)), POk p) ∧
    (((specS (pels ls)).map (List.map E.toREl)).filterMap (belR e)).length = ((subK e (setP (pels ls))).paths.map (List.map E.toREl)).length ∧
    peqvs (specS (pels ((subK e (setP (pels ls))).paths.map (List.map E.toREl)))) (specS (pels (((specS (pels ls)).map (List.map E.toREl)).filterMap (belR e)))) = true := by
  have e1 := pels_back (sub_pws (ls := ls) (e := e))
  have e2 : pels (((specS (pels ls)).map (List.map E.toREl)).filterMap (belR e)) = belowL e (specS (pels ls)) := by rw [belR_pels, pels_back (specS_pws1 h)]
  have hs := specS_ok h
  have o1 := paths_pok (subK_wf (e := e) (setP_wf h))
  have o2 := below_ok (e := e) hs.1
  have hal := alike_lists o1 o2 (sub_alike h he)
  rw [e1, e2]
  refine ⟨o1, o2, ?_, hal.2⟩
  have e3 : (((specS (pels ls)).map (List.map E.toREl)).filterMap (belR e)).length = (belowL e (specS (pels ls))).length := by rw [← e2]; exact (List.length_map _).symm
  rw [e3, hal.1, List.length_map]

set_option maxRecDepth 100000 in
set_option maxHeartbeats 8000000 in
theorem setWithPrefixLaw {ls : List (List REl)} {r : REl} {cs : List Value} {A : Option Addr} {c : Nat} {w : World} (h : PathsAt (Old w) w ls A c) (hr : ElemAt (Old w) w r cs) :
    Calls Tryz.prog 8 #[.slice A ls.length c, .agg cs.toArray] w (LawPost w) := by
  have HZ := hide fun (W : World) (hb : Below w.heap.size w W) => zzFits13_calls r W cs (hr.at_ hb)
  have HT := hide fun (W : World) (hb : Below w.heap.size w W) => orderlyPaths_calls (h.at_ hb)
  have HO := hide fun (W : World) (hb : Below w.heap.size w W) => orderlyElem_calls r W cs (hr.at_ hb)
  have HE := hide fun (hok : ∀ l ∈ ls, POk (pel l)) (he : r.elem.Ok) (hn : ls.length ≤ N38) (W : World) (hb : Below w.heap.size w W) => setWithPrefix_calls (h.at_ hb) (hr.at_ hb) (pels_all hok) he hn
  have HS := hide fun (hok : ∀ l ∈ ls, POk (pel l)) (W : World) (hb : Below w.heap.size w W) => setOf_calls (h.at_ hb) (pels_all hok)
  have HB := hide fun (W : World) (hb : Below w.heap.size w W) (ps : List (List REl)) (A' : Option Addr) (c' : Nat) (hp : PathsAt (Old W) W ps A' c') => below_calls hp (hr.at_ hb)
  have HL := hide fun (hok : ∀ l ∈ ls, POk (pel l)) (he : r.elem.Ok) => wp_lists (pels_all hok) he
  obtain ⟨a0, a1, a2, a3, a4, a5, a6, a7, a8, a9, aa, ab, ac, ad, ae, af, ag, ah, ai, rfl⟩ := hr.form
  clear h hr
  generalize (subK r.elem (setP (pels ls))).paths.map (List.map E.toREl) = rs at *
  generalize (specS (pels ls)).map (List.map E.toREl) = ss at *
  generalize (∀ l ∈ ls, POk (pel l)) = P at *
  generalize ls.length = n at *
  have hbx : Below w.heap.size w (w.alloc (.cells #[.int .i64 a0, .string a1, .slice a2 a3 a4, .slice a5 a6 a7, .int .i64 a8, .int .i64 a9, .float .f64 aa, .string ab, .slice ac ad ae, .slice af ag ah, .int .i64 ai] 33)) := (Below.refl _ _).alloc (Nat.le_refl _) _
  have hbox := Bk.new w 33 #[.int .i64 a0, .string a1, .slice a2 a3 a4, .slice a5 a6 a7, .int .i64 a8, .int .i64 a9, .float .f64 aa, .string ab, .slice ac ad ae, .slice af ag ah, .int .i64 ai]
  obtain ⟨w1, hw1⟩ : ∃ w1, w.alloc (.cells #[.int .i64 a0, .string a1, .slice a2 a3 a4, .slice a5 a6 a7, .int .i64 a8, .int .i64 a9, .float .f64 aa, .string ab, .slice ac ad ae, .slice af ag ah, .int .i64 ai] 33) = w1 := ⟨_, rfl⟩
  rw [hw1] at hbx hbox
  have Hb := hide hbx
  have Hbk := hide hbox
  clear hbx hbox
  by_cases hbig : 2147483647 < n
  · have gi1 : (2147483647 : Int) < (n : Int) := by omega
    have gd1 : decide ((2147483647 : Int) < (n : Int)) = true := decide_eq_true gi1
    go_enter Tryz.func8, Tryz.ntmps8
    go_wp2_with fail
    try rw [hw1]
    clear hw1
    go_wp2
    go_ret
    exact ⟨rfl, Hb.out⟩
  have gi1 : ¬ (2147483647 : Int) < (n : Int) := by omega
  have gd1 : decide ((2147483647 : Int) < (n : Int)) = false := decide_eq_false gi1
  have hn38 : n ≤ N38 := by unfold N38; omega
  go_enter Tryz.func8, Tryz.ntmps8
  go_upto_region 1 with fail
  try rw [hw1]
  clear hw1
  obtain ⟨s0, s1, s2, s3, s4, s5, s6, s7, s8, s9, s10⟩ := Hbk.out.cells11
  go_wp2_with fail
  refine (HZ.out _ Hb.out).mono ?_
  rintro e w2 ⟨⟨z, rfl⟩, hb2⟩
  have Hb2 := hide (Hb.out.trans (hb2.mono Hb.out.size))
  have Hbk2 := hide (Hbk.out.below hb2 Hbk.out.lt)
  clear hb2 s0 s1 s2 s3 s4 s5 s6 s7 s8 s9 s10 Hb Hbk
  have Hb := Hb2
  have Hbk := Hbk2
  clear Hb2 Hbk2 HZ
  obtain ⟨s0, s1, s2, s3, s4, s5, s6, s7, s8, s9, s10⟩ := Hbk.out.cells11
  cases z
  · go_wp2
    go_ret
    exact ⟨rfl, Hb.out⟩
  go_wp2_with fail
  refine (HT.out _ Hb.out).mono ?_
  rintro e w3 ⟨t, rfl, ho, hb3⟩
  have Ho := hide ho
  have Hb3 := hide (Hb.out.trans (hb3.mono Hb.out.size))
  have Hbk3 := hide (Hbk.out.below hb3 Hbk.out.lt)
  clear hb3 ho s0 s1 s2 s3 s4 s5 s6 s7 s8 s9 s10 Hb Hbk HT
  have Hb := Hb3
  have Hbk := Hbk3
  clear Hb3 Hbk3
  obtain ⟨s0, s1, s2, s3, s4, s5, s6, s7, s8, s9, s10⟩ := Hbk.out.cells11
  cases t
  · go_wp2
    go_ret
    exact ⟨rfl, Hb.out⟩
  have hok : P := Ho.out (by first | trivial | rfl)
  go_wp2_with fail
  refine (HO.out _ Hb.out).mono ?_
  rintro e w4 ⟨t, rfl, ho, hb4⟩
  have Ho2 := hide ho
  have Hb4 := hide (Hb.out.trans (hb4.mono Hb.out.size))
  have Hbk4 := hide (Hbk.out.below hb4 Hbk.out.lt)
  clear hb4 ho s0 s1 s2 s3 s4 s5 s6 s7 s8 s9 s10 Hb Hbk HO
  have Hb := Hb4
  have Hbk := Hbk4
  clear Hb4 Hbk4
  obtain ⟨s0, s1, s2, s3, s4, s5, s6, s7, s8, s9, s10⟩ := Hbk.out.cells11
  cases t
  · go_wp2
    go_ret
    exact ⟨rfl, Hb.out⟩
  have he : r.elem.Ok := Ho2.out (by first | trivial | rfl)
  have HE1 := hide (HE.out hok he hn38)
  have HS1 := hide (HS.out hok)
  have HL1 := hide (HL.out hok he)
  clear hok he Ho Ho2 HE HS HL
  clear s0 s1 s2 s3 s4 s5 s6 s7 s8 s9 s10
  go_wp2_with fail
  obtain ⟨S, hS⟩ : ∃ S, (fun W => Bk W w.heap.size 33 #[.int .i64 a0, .string a1, .slice a2 a3 a4, .slice a5 a6 a7, .int .i64 a8, .int .i64 a9, .float .f64 aa, .string ab, .slice ac ad ae, .slice af ag ah, .int .i64 ai]) = S := ⟨_, rfl⟩
  have hS0 : S w4.drew := by rw [← hS]; exact Hbk.out.drew
  refine wp_region_head 8 S (by rfl) (by kernel_rfl) ?_
  refine HT.take 0 (v := ?_) rfl (by kernel_rfl) (fun _ _ _ h => h) (Or.inl ⟨by rfl, ?_⟩) (by assumption) ?_
  rotate_left
  · intro W hSw; rw [← hS] at hSw; have hSw := show Bk W w.heap.size 33 #[.int .i64 a0, .string a1, .slice a2 a3 a4, .slice a5 a6 a7, .int .i64 a8, .int .i64 a9, .float .f64 aa, .string ab, .slice ac ad ae, .slice af ag ah, .int .i64 ai] from hSw; obtain ⟨s0, s1, s2, s3, s4, s5, s6, s7, s8, s9, s10⟩ := hSw.cells11; clear hSw; go_simp; with_reducible rfl
  simp only [Act.put, List.setIfInBounds_toArray, List.set_cons_zero, List.set_cons_succ]
  refine HT.take 1 (v := ?_) rfl (by kernel_rfl) (fun _ _ _ h => h) (Or.inl ⟨by rfl, ?_⟩) (by assumption) ?_
  rotate_left
  · intro W hSw; rw [← hS] at hSw; have hSw := show Bk W w.heap.size 33 #[.int .i64 a0, .string a1, .slice a2 a3 a4, .slice a5 a6 a7, .int .i64 a8, .int .i64 a9, .float .f64 aa, .string ab, .slice ac ad ae, .slice af ag ah, .int .i64 ai] from hSw; obtain ⟨s0, s1, s2, s3, s4, s5, s6, s7, s8, s9, s10⟩ := hSw.cells11; clear hSw; go_simp; with_reducible rfl
  simp only [Act.put, List.setIfInBounds_toArray, List.set_cons_zero, List.set_cons_succ]
  refine HT.take 3 (v := ?_) rfl (by kernel_rfl) (fun _ _ _ h => h) (Or.inl ⟨by rfl, ?_⟩) (by assumption) ?_
  rotate_left
  · intro W hSw; rw [← hS] at hSw; have hSw := show Bk W w.heap.size 33 #[.int .i64 a0, .string a1, .slice a2 a3 a4, .slice a5 a6 a7, .int .i64 a8, .int .i64 a9, .float .f64 aa, .string ab, .slice ac ad ae, .slice af ag ah, .int .i64 ai] from hSw; obtain ⟨s0, s1, s2, s3, s4, s5, s6, s7, s8, s9, s10⟩ := hSw.cells11; clear hSw; go_simp; with_reducible rfl
  simp only [Act.put, List.setIfInBounds_toArray, List.set_cons_zero, List.set_cons_succ]
  refine HT.take 5 (v := ?_) rfl (by kernel_rfl) (fun _ _ _ h => h) (Or.inl ⟨by rfl, ?_⟩) (by assumption) ?_
  rotate_left
  · intro W hSw; rw [← hS] at hSw; have hSw := show Bk W w.heap.size 33 #[.int .i64 a0, .string a1, .slice a2 a3 a4, .slice a5 a6 a7, .int .i64 a8, .int .i64 a9, .float .f64 aa, .string ab, .slice ac ad ae, .slice af ag ah, .int .i64 ai] from hSw; obtain ⟨s0, s1, s2, s3, s4, s5, s6, s7, s8, s9, s10⟩ := hSw.cells11; clear hSw; go_simp; with_reducible rfl
  simp only [Act.put, List.setIfInBounds_toArray, List.set_cons_zero, List.set_cons_succ]
  refine HT.one 2 rfl (by kernel_rfl) (by rfl) (fun K hK => ?_)
  go_simp
  have hbd : Below w.heap.size w w4.drew := below_drew Hb.out
  refine (HE1.out _ hbd).mono ?_
  rintro en w5 ⟨A5, c5, rfl, hp5, hb5⟩
  have hb5' : Below w.heap.size w w5 := hbd.trans (hb5.mono hbd.size)
  have hS5 : S w5 := by rw [← hS]; exact Hbk.out.drew.below hb5 Hbk.out.drew.lt
  have Hp5 := hide (And.intro (hp5.mono (G := Old w5) fun b hb => hb.2) hb5')
  clear hp5 hb5 hb5' hbd HE1
  go_simp
  refine hK.out _ _ hS5 ?_
  clear hK K
  refine HT.one 4 rfl (by kernel_rfl) (by rfl) (fun K hK => ?_)
  go_simp
  refine (HS1.out _ Hp5.out.2).mono ?_
  rintro en w6 ⟨A6, c6, rfl, hp6, hb6⟩
  have hS6 : S w6 := by
    rw [← hS] at hS5 ⊢
    exact hS5.below hb6 hS5.lt
  have Hp6 := hide (And.intro (hp6.mono (G := Old w6) fun b hb => hb.2) (And.intro (Hp5.out.1.at_ hb6) (Hp5.out.2.trans (hb6.mono Hp5.out.2.size))))
  clear hp6 hb6 Hp5 HS1
  go_simp
  refine hK.out _ _ hS6 ?_
  clear hK K
  refine HT.one 6 rfl (by kernel_rfl) (by rfl) (fun K hK => ?_)
  go_simp
  refine (HB.out _ Hp6.out.2.2 _ _ _ Hp6.out.1).mono ?_
  rintro en w7 ⟨A7, c7, rfl, hp7, hb7⟩
  have hS7 : S w7 := by
    rw [← hS] at hS6 ⊢
    exact hS6.below hb7 hS6.lt
  have HQ := hide (lists_calls (Hp6.out.2.1.at_ hb7) hp7 HL1.out.1 HL1.out.2.1 HL1.out.2.2.1)
  rw [HL1.out.2.2.2] at HQ
  have Hb7 := hide (Hp6.out.2.2.trans (hb7.mono Hp6.out.2.2.size))
  clear hp7 hb7 Hp6 HB HL1
  generalize ss.filterMap (belR r.elem) = ts at *
  go_simp
  refine hK.out _ _ hS7 ?_
  clear hK K
  refine HT.one 7 rfl (by kernel_rfl) (by rfl) (fun K hK => ?_)
  go_simp
  refine HQ.out.mono ?_
  rintro en w8 ⟨rfl, hb8⟩
  have hS8 : S w8 := by
    rw [← hS] at hS7 ⊢
    exact hS7.below hb8 hS7.lt
  have Hb8 := hide (Hb7.out.trans (hb8.mono Hb7.out.size))
  clear hb8 HQ
  go_simp
  refine hK.out _ _ hS8 ?_
  clear hK K
  refine HT.done (by kernel_rfl) ?_
  simp only [List.drop_succ_cons, List.drop_zero]
  clear hS0 hS5 hS6 hS7 hS8 hS
  go_wp2
  go_ret
  exact ⟨rfl, Hb8.out⟩

end Go.Proofs.YtajeghkjppkhcaaGreat
