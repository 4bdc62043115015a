/- Parts: PathP, UnionP, Both, LawSetUnion. -/
import Derived.Test.YtbicoknghdgahaaGreatKC01
import Derived.Test.YtbicoknghdgahaaGreatKF01
import Derived.Test.YtbicoknghdgahaaGreatKG04
set_option linter.unusedVariables false
set_option linter.unusedSimpArgs false
namespace Go.Proofs.YtbicoknghdgahaaGreat

section
variable {α : Type} {c : α → α → Int} {Ok : α → Prop} (O : TOrd c Ok)

theorem HasC_append {l m : List α} {x : α} : HasC c (l ++ m) x ↔ HasC c l x ∨ HasC c m x := by
 unfold HasC
 constructor
 ·rintro ⟨a, h, e⟩
  rcases List.mem_append.1 h with h | h
  ·exact .inl ⟨a, h, e⟩
  ·exact .inr ⟨a, h, e⟩
 ·rintro (⟨a, h, e⟩ | ⟨a, h, e⟩)
  ·exact ⟨a, List.mem_append_left _ h, e⟩
  ·exact ⟨a, List.mem_append_right _ h, e⟩

include O
end

end Go.Proofs.YtbicoknghdgahaaGreat

namespace Go.Proofs.YtbicoknghdgahaaGreat

theorem ne_of_eq {p x : List E} (hx0 : x ≠ []) (e : wcmp p x = 0) : p ≠ [] := fun e0 => hx0 (by subst e0; exact List.eq_nil_of_length_eq_zero (wcmp_len e).symm)
theorem has_specS {l : List (List E)} (h : ∀ p ∈ l, POk p) {x : List E} (hx : POk x) (hx0 : x ≠ []) : HasC wcmp (specS l) x ↔ HasC wcmp l x := by
 rw [specS_has h hx]
 constructor
 ·rintro ⟨p, hp, -, e⟩; exact ⟨p, hp, e⟩
 ·rintro ⟨p, hp, e⟩; exact ⟨p, hp, ne_of_eq hx0 e, e⟩
theorem specS_nil {l : List (List E)} (h : ∀ p ∈ l, POk p) : ¬ HasC wcmp (specS l) [] := by
 rw [specS_has h (fun _ h => by cases h)]
 rintro ⟨p, hp, hp0, e⟩
 exact hp0 (List.eq_nil_of_length_eq_zero (wcmp_len e))
theorem un_alike {a b : List (List E)} (ha : ∀ p ∈ a, POk p) (hb : ∀ p ∈ b, POk p) {n : Nat} (h1 : (setP a).Ht n) (h2 : (setP b).Ht n) : Alike wcmp (SOp.un.ap n (setP a) (setP b)).paths (specS (specS a ++ specS b)) := by
 have wa := setP_wf ha
 have wb := setP_wf hb
 have hw := ap_wf (o := SOp.un) (n := n) wa wb
 have hab : ∀ p ∈ specS a ++ specS b, POk p := fun p hp => by
  rcases List.mem_append.1 hp with hp | hp
  ·exact (specS_ok ha).1 p hp
  ·exact (specS_ok hb).1 p hp
 have hs := specS_ok hab
 refine alike_of wcmp_ord (paths_pok hw) hs.1 (paths_sorted hw) hs.2.1 fun x hx => ?_
 by_cases hx0 : x = []
 ·subst hx0
  exact ⟨fun h => absurd h (has_nil hw), fun h => absurd h (specS_nil hab)⟩
 rw [show HasC wcmp (SOp.un.ap n (setP a) (setP b)).paths x ↔ _ from has_ap wa wb (ht_paths h1) (ht_paths h2) hx, has_specS hab hx hx0, HasC_append, has_specS ha hx hx0, has_specS hb hx hx0, has_setP ha hx hx0, has_setP hb hx hx0]
 unfold SOp.says SOp.un HasC
 by_cases p : ∃ p ∈ a, wcmp p x = 0 <;> by_cases q : ∃ p ∈ b, wcmp p x = 0 <;> simp [p, q]

end Go.Proofs.YtbicoknghdgahaaGreat

namespace Go.Proofs.YtbicoknghdgahaaGreat
open Go.RowKit
attribute [local go_sem] run_store_float

set_option maxRecDepth 100000 in
set_option maxHeartbeats 4000000 in
theorem specUnion_calls {l m : List (List REl)} {A B : Option Addr} {c d : Nat} {w : World} (h : PathsAt (Old w) w l A c) (h' : PathsAt (Old w) w m B d) (hn : (l.length + m.length) * 24 ≤ R47) (hl : ∀ p ∈ pels l, POk p) (hm : ∀ p ∈ pels m, POk p) :
  Calls Tryz.prog 31 #[.slice A l.length c, .slice B m.length d] w (GivesPaths ((specS (pels l ++ pels m)).map (List.map E.toREl)) w) := by
 have hlm : ∀ p ∈ pels (l ++ m), POk p := fun p hp => by
  rw [show pels (l ++ m) = pels l ++ pels m from List.map_append ..] at hp
  rcases List.mem_append.1 hp with hp | hp
  ·exact hl p hp
  ·exact hm p hp
 have epl : pels (l ++ m) = pels l ++ pels m := List.map_append ..
 rw [← epl]
 clear epl hl hm
 obtain ⟨h1, h2, h3, xs, h4, h5⟩ := h
 obtain ⟨k1, k2, k3, ys, k4, k5⟩ := h'
 have hn' : (l.length + m.length) * 24 ≤ 140737488351232 := hn
 obtain ⟨i9, hi9, hz9, hs9, hb9⟩ := info_parts paths_info
 have hb0 : Below w.heap.size w (w.alloc (.cells #[] 22)) := (Below.refl _ _).alloc (Nat.le_refl _) _
 have hown0 := World.ownsRow_lit (base := w.heap.size) (e := 22) (size := 1) w #[] 0 (by simp) (by simp [maxLen]) (by simp)
 have k0 : Keeps (Old w) w (w.alloc (.cells #[] 22)) := Keeps.below hb0 fun _ h => h
 have H0 := hide (And.intro hb0 (And.intro hown0 (And.intro (h4.keeps k0) (And.intro (h5.mono fun _ _ h => PQ.keeps h k0) (And.intro k4 k5)))))
 have Ho := hide (And.intro (pq_ones h5) (pq_ones k5))
 clear hb0 hown0 k0 h1 h2 h3 h4 h5 k1 k2 k3 k4 k5
 obtain ⟨n, hn0⟩ : ∃ n, l.length = n := ⟨_, rfl⟩
 obtain ⟨n', hn1⟩ : ∃ n, m.length = n := ⟨_, rfl⟩
 have Hn := hide (And.intro hn0 (And.intro hn1 hlm))
 rw [hn0] at H0
 rw [hn1] at H0
 rw [hn0, hn1] at hn' ⊢
 clear hn0 hn1 hn hlm
 go_enter Tryz.func31, Tryz.ntmps31
 go_wp2_with (at_builtin; go_loud (refine wpList_append_row _ rfl (.tmp 5) (.tmp 6) 36 rfl w.heap.size 22 i9 _ 1 24 Tryz.underlying36 hi9 hz9 hs9 hb9 rfl (by omega) (.slice (some ⟨w.heap.size, 0, none⟩) 0 0) 0 [] rfl H0.out.2.1 (Old w) A n c xs rfl H0.out.2.2.1 Ho.out.1 (by omega) (by omega) (by rw [World.size_alloc]; omega) ?_))
 intro v2 w2 hown2 hg2 hat2
 have hlo1 : ∀ b, (Value.slice (some ⟨w.heap.size, 0, none⟩) 0 0).ownBlock = some b → w.heap.size ≤ b := fun b hb => by
  have e1 : w.heap.size = b := Option.some.inj hb
  omega
 have hst := old_step (ls := ([] : List (List REl))) (us := []) (Q := PQ) (fun h k => h.keeps k) Cells.nil_ H0.out.1 hlo1 hg2 H0.out.2.2.2.1
 rw [List.nil_append] at hst
 have hkw : Keeps (Old w) w w2 := Keeps.below hst.2 fun _ h => h
 have hrow2 := H0.out.2.2.2.2.1.keeps hkw
 have hcel2 := H0.out.2.2.2.2.2.mono fun _ _ h => PQ.keeps h hkw
 have hlo2 := hown2.lt
 obtain ⟨oA, oc, rfl, _, _⟩ := own_form hown2
 have Hst := hide (And.intro hst (And.intro hown2 (And.intro hrow2 hcel2)))
 have Hlo := hide hlo2
 have hw2 := hst.2.size
 clear hst hg2 hat2 hlo1 hkw hrow2 hcel2 hlo2 hown2 H0
 go_wp2_with (at_builtin; go_loud (refine wpList_append_row _ rfl (.tmp 7) (.tmp 8) 36 rfl w.heap.size 22 i9 _ 1 24 Tryz.underlying36 hi9 hz9 hs9 hb9 rfl (by omega) _ n _ rfl Hst.out.2.1 (Old w) B n' d ys rfl Hst.out.2.2.1 Ho.out.2 (by omega) (by omega) (by omega) ?_))
 intro v3 w3 hown3 hg3 hat3
 have hst3 := old_step (Q := PQ) (fun h k => h.keeps k) Hst.out.1.1 Hst.out.1.2 (fun b hb => (Hlo.out b hb).1) hg3 Hst.out.2.2.2
 obtain ⟨nA, nc, rfl, q1, q2⟩ := own_form hown3
 have hlen : (l ++ m).length = n + n' := by rw [List.length_append, Hn.out.1, Hn.out.2.1]
 have hfin : PathsAt (Old w3) w3 (l ++ m) nA nc := ⟨by rw [hlen]; unfold R47; omega, by rw [hlen]; exact q1, q2, _, by rw [hlen]; exact Row.of_own hown3 fun b hb => (hown3.lt b hb).2, hst3.1.mono fun _ _ h => PQ.mono h fun b hb => Nat.lt_of_lt_of_le hb hst3.2.size⟩
 have HS := hide (setOf_calls hfin Hn.out.2.2)
 rw [hlen] at HS
 have Hb := hide hst3.2
 clear hown3 hg3 hat3 hst3 hfin hlen Hst q1 q2
 generalize specS (pels (l ++ m)) = R at *
 go_wp2_with fail
 refine HS.out.mono ?_
 rintro e w4 ⟨B4, d4, rfl, hp, hb4⟩
 have Hf := hide (And.intro (hp.mono fun b hb => ⟨Nat.le_trans Hb.out.size hb.1, hb.2⟩ : PathsAt (Fr w.heap.size w4) w4 (R.map (List.map E.toREl)) B4 d4) (Hb.out.trans (hb4.mono Hb.out.size)))
 clear hp hb4
 generalize R.map (List.map E.toREl) = rs at *
 go_wp2
 go_ret
 exact ⟨B4, d4, rfl, Hf.out.1, Hf.out.2⟩

end Go.Proofs.YtbicoknghdgahaaGreat

namespace Go.Proofs.YtbicoknghdgahaaGreat
open Go.RowKit
attribute [local go_sem] run_store_float

theorem pels_len (l : List (List REl)) : (pels l).length = l.length := List.length_map _
theorem apL_pws1 {o : SOp} {N : Nat} {l m : List (List REl)} : ∀ p ∈ apL o N (pels l) (pels m), PWS p := apL_pws (fun p hp => pels_pws hp) (fun p hp => pels_pws hp)
theorem un_lists {l m : List (List REl)} (hl : ∀ p ∈ pels l, POk p) (hm : ∀ p ∈ pels m, POk p) {N : Nat} (h1 : (setP (pels l)).Ht N) (h2 : (setP (pels m)).Ht N) :
  (∀ p ∈ pels ((apL SOp.un N (pels l) (pels m)).map (List.map E.toREl)), POk p) ∧ (∀ p ∈ pels ((specS (specS (pels l) ++ specS (pels m))).map (List.map E.toREl)), POk p) ∧
  ((specS (specS (pels l) ++ specS (pels m))).map (List.map E.toREl)).length = ((apL SOp.un N (pels l) (pels m)).map (List.map E.toREl)).length ∧
  peqvs (specS (pels ((apL SOp.un N (pels l) (pels m)).map (List.map E.toREl)))) (specS (pels ((specS (specS (pels l) ++ specS (pels m))).map (List.map E.toREl)))) = true := by
 have hab : ∀ p ∈ specS (pels l) ++ specS (pels m), POk p := fun p hp => by
  rcases List.mem_append.1 hp with hp | hp
  ·exact (specS_ok hl).1 p hp
  ·exact (specS_ok hm).1 p hp
 have hws : ∀ p ∈ specS (specS (pels l) ++ specS (pels m)), PWS p := fun p hp => by
  rcases List.mem_append.1 (specS_mem hab hp).1 with hp | hp
  ·exact specS_pws1 hl p hp
  ·exact specS_pws1 hm p hp
 have e1 := pels_back (apL_pws1 (o := SOp.un) (N := N) (l := l) (m := m))
 have e2 := pels_back hws
 have hal := un_alike hl hm h1 h2
 have hls := alike_lists (apL_ok (o := SOp.un) (n := N) hl hm) (specS_ok hab).1 hal
 rw [e1, e2]
 exact ⟨apL_ok hl hm, (specS_ok hab).1, by rw [List.length_map, List.length_map]; exact hls.1, hls.2⟩

set_option maxRecDepth 100000 in
set_option maxHeartbeats 8000000 in
theorem setUnionLaw {l m : List (List REl)} {A B : Option Addr} {c d : Nat} {w : World} (h : PathsAt (Old w) w l A c) (h' : PathsAt (Old w) w m B d) :
  Calls Tryz.prog 6 #[.slice A l.length c, .slice B m.length d] w (LawPost w) := by
 have HB := hide fun (hn : (l.length + m.length) * 24 ≤ R47) => both_calls h h' hn
 have HT := hide fun (W : World) (C : Option Addr) (k : Nat) (hp : PathsAt (Old W) W (l ++ m) C k) => orderlyPaths_calls hp
 obtain ⟨N, hN, hN47⟩ := ht_some
 have HE := hide fun (hl : ∀ p ∈ pels l, POk p) (hm : ∀ p ∈ pels m, POk p) (hn : l.length + m.length ≤ N38) (W : World) (hb : Below w.heap.size w W) => implSetUnion_calls (h.at_ hb) (h'.at_ hb) hl hm hn (ht_any h hN) (ht_any h' hN) hN47
 have HS1 := hide fun (hl : ∀ p ∈ pels l, POk p) (W : World) (hb : Below w.heap.size w W) => setOf_calls (h.at_ hb) hl
 have HS2 := hide fun (hm : ∀ p ∈ pels m, POk p) (W : World) (hb : Below w.heap.size w W) => setOf_calls (h'.at_ hb) hm
 have HU := hide fun (hl : ∀ p ∈ pels l, POk p) (hm : ∀ p ∈ pels m, POk p) (hn : l.length + m.length ≤ N38) (W : World) (A' B' : Option Addr) (c' d' : Nat) (q1 : PathsAt (Old W) W ((specS (pels l)).map (List.map E.toREl)) A' c') (q2 : PathsAt (Old W) W ((specS (pels m)).map (List.map E.toREl)) B' d') => by
  have e1 := pels_back (specS_pws1 hl)
  have e2 := pels_back (specS_pws1 hm)
  have k1 := (specS_ok hl).2.2
  have k2 := (specS_ok hm).2.2
  rw [pels_len] at k1 k2
  have hc := specUnion_calls q1 q2 (by rw [List.length_map, List.length_map]; unfold R47 N38 at *; omega) (by rw [e1]; exact (specS_ok hl).1) (by rw [e2]; exact (specS_ok hm).1)
  rwa [e1, e2] at hc
 have HL := hide fun (hl : ∀ p ∈ pels l, POk p) (hm : ∀ p ∈ pels m, POk p) => un_lists hl hm (ht_any h hN) (ht_any h' hN)
 have Hlm := hide (show (l ++ m).length = l.length + m.length from List.length_append)
 clear h h' hN hN47
 generalize (apL SOp.un N (pels l) (pels m)).map (List.map E.toREl) = rs at *
 generalize (specS (specS (pels l) ++ specS (pels m))).map (List.map E.toREl) = us at *
 generalize (specS (pels l)).map (List.map E.toREl) = ss at *
 generalize (specS (pels m)).map (List.map E.toREl) = ts at *
 have Hok := hide (show (∀ p ∈ l ++ m, POk (pel p)) → (∀ p ∈ pels l, POk p) ∧ ∀ p ∈ pels m, POk p from fun hall => ⟨pels_all fun p hp => hall p (by simp [hp]), pels_all fun p hp => hall p (by simp [hp])⟩)
 generalize (∀ p ∈ l ++ m, POk (pel p)) = P0 at *
 generalize (∀ p ∈ pels l, POk p) = P at *
 generalize (∀ p ∈ pels m, POk p) = P' at *
 generalize l.length = n at *
 generalize m.length = k at *
 by_cases hbig : 2147483647 < n
 ·have gi1 : (2147483647 : Int) < (n : Int) := by omega
  have gd1 : decide ((2147483647 : Int) < (n : Int)) = true := decide_eq_true gi1
  go_enter Tryz.func6, Tryz.ntmps6
  go_wp2
  go_ret
  exact ⟨rfl, Below.refl _ _⟩
 have gi1 : ¬ (2147483647 : Int) < (n : Int) := by omega
 have gd1 : decide ((2147483647 : Int) < (n : Int)) = false := decide_eq_false gi1
 by_cases hbig2 : 2147483647 < k
 ·have gi2 : (2147483647 : Int) < (k : Int) := by omega
  have gd2 : decide ((2147483647 : Int) < (k : Int)) = true := decide_eq_true gi2
  go_enter Tryz.func6, Tryz.ntmps6
  go_wp2
  go_ret
  exact ⟨rfl, Below.refl _ _⟩
 have gi2 : ¬ (2147483647 : Int) < (k : Int) := by omega
 have gd2 : decide ((2147483647 : Int) < (k : Int)) = false := decide_eq_false gi2
 have hnk : n + k ≤ N38 := by unfold N38; omega
 have hn24 : (n + k) * 24 ≤ R47 := by unfold R47; omega
 have HB1 := hide (HB.out hn24)
 clear HB
 go_enter Tryz.func6, Tryz.ntmps6
 go_wp2_with fail
 refine HB1.out.mono ?_
 rintro e w1 ⟨A1, c1, rfl, hp1, hb1⟩
 have HT1 := hide (HT.out w1 A1 c1 hp1)
 have Hb := hide hb1
 rw [Hlm.out] at HT1 ⊢
 clear hp1 hb1 HB1 HT Hlm
 go_wp2_with fail
 refine HT1.out.mono ?_
 rintro e w2 ⟨t, rfl, ho, hb2⟩
 have Ho := hide ho
 have Hb2 := hide (Hb.out.trans (hb2.mono Hb.out.size))
 clear ho hb2 HT1 Hb
 cases t
 ·go_wp2
  go_ret
  exact ⟨rfl, Hb2.out⟩
 have hpp := Hok.out (Ho.out (by first | trivial | rfl))
 have HE1 := hide (HE.out hpp.1 hpp.2 hnk)
 have HS11 := hide (HS1.out hpp.1)
 have HS21 := hide (HS2.out hpp.2)
 have HU1 := hide (HU.out hpp.1 hpp.2 hnk)
 have HL1 := hide (HL.out hpp.1 hpp.2)
 clear hpp Ho HE HS1 HS2 HU HL Hok
 go_wp2_with fail
 refine (HE1.out w2 Hb2.out).mono ?_
 rintro e w3 ⟨A3, c3, rfl, hp3, hb3⟩
 have H3 := hide (And.intro (hp3.mono (G := Old w3) fun b hb => hb.2) (Hb2.out.trans (hb3.mono Hb2.out.size)))
 clear hp3 hb3 HE1 Hb2
 go_wp2_with fail
 refine (HS11.out w3 H3.out.2).mono ?_
 rintro e w4 ⟨A4, c4, rfl, hp4, hb4⟩
 have H4 := hide (And.intro (H3.out.1.at_ hb4) (And.intro (hp4.mono (G := Old w4) fun b hb => hb.2) (H3.out.2.trans (hb4.mono H3.out.2.size))))
 clear hp4 hb4 HS11 H3
 go_wp2_with fail
 refine (HS21.out w4 H4.out.2.2).mono ?_
 rintro e w5 ⟨A5, c5, rfl, hp5, hb5⟩
 have HU2 := hide (HU1.out w5 A4 A5 c4 c5 (H4.out.2.1.at_ hb5) (hp5.mono (G := Old w5) fun b hb => hb.2))
 have H5 := hide (And.intro (H4.out.1.at_ hb5) (H4.out.2.2.trans (hb5.mono H4.out.2.2.size)))
 clear hp5 hb5 HS21 H4 HU1
 go_wp2_with fail
 refine HU2.out.mono ?_
 rintro e w6 ⟨A6, c6, rfl, hp6, hb6⟩
 have HQ := hide (lists_calls (H5.out.1.at_ hb6) (hp6.mono (G := Old w6) fun b hb => hb.2) HL1.out.1 HL1.out.2.1 HL1.out.2.2.1)
 rw [HL1.out.2.2.2] at HQ
 have H6 := hide (H5.out.2.trans (hb6.mono H5.out.2.size))
 clear hp6 hb6 H5 HU2 HL1
 go_wp2_with fail
 refine HQ.out.mono ?_
 rintro e w7 ⟨rfl, hb7⟩
 have H7 := hide (H6.out.trans (hb7.mono H6.out.size))
 clear hb7 HQ
 go_wp2
 go_ret
 exact ⟨rfl, H7.out⟩

end Go.Proofs.YtbicoknghdgahaaGreat
