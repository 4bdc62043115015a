/- Parts: LawFilterWild. -/
import Derived.Test.YtbicoknghdgahaaGreatNA04
set_option linter.unusedVariables false
set_option linter.unusedSimpArgs false
namespace Go.Proofs.YtbicoknghdgahaaGreat
open Go.RowKit
attribute [local go_sem] run_store_float

theorem part_info : (Tryz.prog.info? 89).map (fun i => (i.zero, i.size, i.bytes)) = some (some (.agg #[.bool false, .int .i64 0, .string ⟨#[]⟩, .slice none 0 0, .slice none 0 0, .int .i64 0, .int .i64 0, .float .f64 0, .string ⟨#[]⟩, .slice none 0 0, .slice none 0 0, .int .i64 0]), 12, 176) := by kernel_rfl
def partC (b : Bool) : List Value := [.bool b, .int .i64 0, .string ⟨#[]⟩, .slice none 0 0, .slice none 0 0, .int .i64 0, .int .i64 0, .float .f64 0, .string ⟨#[]⟩, .slice none 0 0, .slice none 0 0, .int .i64 0]
def zeroEl : REl := ⟨0, ⟨#[]⟩, [], [], vNull, 0⟩
theorem partC_at (F : Nat → Prop) (w : World) (b : Bool) : PartAt F w (b, zeroEl) (partC b) :=
 ⟨_, rfl, .mk ⟨by decide, by decide⟩ (by decide) (noRows_at F w) (vNull_at F w) ⟨by decide, by decide⟩⟩
theorem set_at {xs : List Value} {k i s : Nat} {u : Value} (hs : 0 < s) : ((xs.set (k * s) u).drop (i * s)).take s = if i = k then ((xs.drop (k * s)).take s).set 0 u else (xs.drop (i * s)).take s := by
 apply List.ext_getElem?
 intro j
 rw [List.getElem?_take, List.getElem?_drop]
 split
 ·rename_i hj
  split
  ·rename_i h
   subst h
   rw [List.getElem?_set, List.getElem?_set, List.getElem?_take, if_pos hj, List.getElem?_drop, List.length_take, List.length_drop]
   by_cases h0 : j = 0
   ·subst h0
    simp
    split
    ·rename_i h1
     rw [if_pos (by omega)]
    ·rename_i h1
     rw [if_neg (by omega)]
   ·rw [if_neg (by omega), if_neg (by omega)]
  ·rename_i h
   have hne : ¬ k * s = i * s + j := fun e => by
    rcases Nat.lt_or_gt_of_ne h with h' | h'
    ·have := Nat.mul_le_mul_right s h'
     rw [Nat.succ_mul] at this
     omega
    ·have := Nat.mul_le_mul_right s h'
     rw [Nat.succ_mul] at this
     omega
   rw [List.getElem?_set, if_neg hne, List.getElem?_take, if_pos hj, List.getElem?_drop]
 ·rename_i hj
  symm
  split
  ·rw [List.getElem?_eq_none]
   rw [List.length_set, List.length_take]
   omega
  ·rw [List.getElem?_take, if_neg hj]
theorem made_at (z : Array Value) (hz : z = (partC false).toArray) (n i : Nat) (hi : i < n) : (((madeCells z (n * 12)).toList).drop (i * 12)).take 12 = partC false := by
 apply List.ext_getElem?
 intro j
 rw [List.getElem?_take, List.getElem?_drop]
 split
 ·rename_i hj
  have hlt : i * 12 + j < n * 12 := by omega
  have e : (i * 12 + j) % 12 = j := by omega
  have hsz : z.size = 12 := by subst hz; rfl
  simp only [madeCells, hsz]
  rw [Array.getElem?_toList, Array.getElem?_map, Array.getElem?_range, if_pos hlt]
  simp only [Option.map_some, e]
  subst hz
  have hj' : j < (partC false).toArray.size := hj
  rw [getElem!_pos (partC false).toArray j hj']
  simp
 ·rename_i hj
  exact (List.getElem?_eq_none (by show 12 ≤ j; omega)).symm

def FWInv (w : World) (g m : Nat) (s25 : Value) (W : World) : Prop :=
 ∃ (k : Nat) (xs : List Value), s25 = .int .i64 (k : Int) ∧ k ≤ m ∧ W.ownsRow w.heap.size 89 12 (.slice (some ⟨g, 0, none⟩) m m) m xs ∧ (∀ i, i < m → (xs.drop (i * 12)).take 12 = partC (decide (i < k))) ∧ Below w.heap.size w W
theorem patP_wild (m : Nat) : chainM (patP (List.replicate m (true, zeroEl))) = wildM m := by
 rw [wildM_chain]
 congr 1
 simp [patP, stepP]
theorem wild_lists {ls : List (List REl)} (h : ∀ p ∈ pels ls, POk p) (m : Nat) :
  peqvs (pelsP (((filtS (setP (pels ls)) (chainM (patP (List.replicate m (true, zeroEl))))).paths).map (List.map E.toREl))) (pelsP ((specS (pels ls)).map (List.map E.toREl))) = true := by
 rw [patP_wild, wild_paths]
 have hw : ∀ p ∈ (setP (pels ls)).paths, PWS p := paths_all (setP_all fun p hp => pels_pws hp)
 rw [pelsP_back hw, pelsP_back (specS_pws1 h)]
 exact (peqvs_alike (paths_pok (setP_wf h)) (specS_ok h).1).2 (made_alike h)

set_option maxRecDepth 100000 in
set_option maxHeartbeats 16000000 in
theorem filterWildLaw {ls : List (List REl)} {A : Option Addr} {c : Nat} {z : Int} {w : World} (h : PathsAt (Old w) w ls A c) (hz : okInt z) :
  Calls Tryz.prog 12 #[.slice A ls.length c, .int .i64 z] w (LawPost w) := by
 have HS1 := hide fun (W : World) (hb : Below w.heap.size w W) => small_calls (h.at_ hb)
 have HB := hide fun (q1 : SmallL ls) (W : World) (hb : Below w.heap.size w W) (p : List (Bool × REl)) (B : Option Addr) (d : Nat) (hp : PatsAt (Old W) W [p] B d) => implSetFilter_calls (N := 7 + 1) (h.at_ hb) hp (fun p hp => pels_all q1.1 p hp) (by have := q1.2.2; unfold N38; omega) (setP_ht (pels_all fun l hl => by rw [pel_length]; exact q1.2.1 l hl)) (by unfold R47; omega)
 have HO := hide fun (q1 : SmallL ls) (W : World) (hb : Below w.heap.size w W) => setOf_calls (h.at_ hb) (pels_all q1.1)
 have HL := hide fun (q1 : SmallL ls) => wild_lists (pels_all q1.1)
 obtain ⟨i9, hi9, hz9, hs9, hb9⟩ := info_parts part_info
 obtain ⟨n, hn⟩ : ∃ n, ls.length = n := ⟨_, rfl⟩
 have Hn := hide hn
 obtain ⟨Q1, hQ1⟩ : ∃ Q1, SmallL ls = Q1 := ⟨_, rfl⟩
 rw [hQ1] at HS1 HB HO HL
 rw [hn] at HS1 HB HO ⊢
 clear hn hQ1 h
 by_cases hbig : 2147483647 < n
 ·have gi1 : (2147483647 : Int) < (n : Int) := by omega
  have gd1 : decide ((2147483647 : Int) < (n : Int)) = true := decide_eq_true gi1
  go_enter Tryz.func12, Tryz.ntmps12
  go_wp2
  go_ret
  exact ⟨rfl, Below.refl _ _⟩
 have gi1 : ¬ (2147483647 : Int) < (n : Int) := by omega
 have gd1 : decide ((2147483647 : Int) < (n : Int)) = false := decide_eq_false gi1
 go_enter Tryz.func12, Tryz.ntmps12
 go_wp2_with fail
 refine (HS1.out _ (Below.refl _ _)).mono ?_
 rintro e w1 ⟨t, rfl, ho, hb1⟩
 have Ho1 := hide ho
 have Hb := hide hb1
 clear ho hb1 HS1
 cases t
 ·go_wp2
  go_ret
  exact ⟨rfl, Hb.out⟩
 have q1 : Q1 := Ho1.out (by first | trivial | rfl)
 clear Ho1
 have HB1 := hide (HB.out q1)
 have HO1 := hide (HO.out q1)
 have HL1 := hide (HL.out q1)
 clear HB HO HL q1
 by_cases hz0 : z < 0
 ·have gz0 : decide (z < 0) = true := decide_eq_true hz0
  go_wp2
  go_ret
  exact ⟨rfl, Hb.out⟩
 have gz0 : decide (z < 0) = false := decide_eq_false hz0
 by_cases hz20 : 20 < z
 ·have gz1 : decide (20 < z) = true := decide_eq_true hz20
  go_wp2
  go_ret
  exact ⟨rfl, Hb.out⟩
 have gz1 : decide (20 < z) = false := decide_eq_false hz20
 obtain ⟨m, rfl⟩ : ∃ m : Nat, z = (m : Int) := ⟨z.toNat, by omega⟩
 have hm20 : m ≤ 20 := by omega
 have hww1 : w.heap.size ≤ w1.heap.size := Hb.out.size
 go_wp2_with (at_make; refine wpList_make_full _ rfl _ _ 87 rfl w.heap.size 89 i9 _ 12 Tryz.underlying87 hi9 hz9 hs9 _ _ _ _ m rfl rfl rfl rfl ?b2 ?b3 ?b4 ?_)
 case b2 => rw [hb9]; omega
 case b3 => unfold maxLen; omega
 case b4 => omega
 intro w2 hown2 hg2
 have hb2 : Below w.heap.size w w2 := Hb.out.grown hg2 hww1 (fun k h => by cases h)
 have Hst := hide (show FWInv w w1.heap.size m (.int .i64 0) w2 from ⟨0, _, rfl, Nat.zero_le _, hown2, fun i hi => (made_at _ rfl m i hi).trans (by rw [decide_eq_false (by omega)]), hb2⟩)
 obtain ⟨g, hg⟩ : ∃ g, w1.heap.size = g := ⟨_, rfl⟩
 rw [hg] at Hst
 try rw [hg]
 clear hown2 hg2 hb2 Hb hg
 go_wp2_with fail
 go_loopw [25] (fun s W => FWInv w g m s W) (fun s _ => m - (intOf s).toNat)
 case atStart => exact Hst.out
 case round =>
  clear Hst
  obtain ⟨k, xs, rfl, hk, hown, hx, hb⟩ := hrel
  have hki0 : (0 : Int) ≤ (k : Int) := Int.natCast_nonneg _
  have hgb := hown.lt g rfl
  by_cases hlt : k < m
  ·have hki1 : (k : Int) < (m : Int) := by omega
   have hxl := hown.1
   have hc := hown.cellAt (k * 12) (by omega)
   have hxk := hx k hlt
   rw [decide_eq_false (by omega : ¬ k < k)] at hxk
   have hx0 : xs[k * 12]? = some (.bool false) := by
    have e : ((xs.drop (k * 12)).take 12)[0]? = (partC false)[0]? := by rw [hxk]
    rw [List.getElem?_take, if_pos (by omega), List.getElem?_drop, Nat.add_zero] at e
    exact e
   rw [hx0] at hc
   have hf := hown.frozenAt (k * 12)
   obtain ⟨h1, h2⟩ := hown.stored (k * 12) (.bool true)
   have hx' : ∀ i, i < m → (((xs.set (k * 12) (.bool true)).drop (i * 12)).take 12) = partC (decide (i < k + 1)) := fun i hi => by
    rw [set_at (by omega)]
    by_cases hik : i = k
    ·subst hik
     rw [if_pos rfl, hxk, decide_eq_true (by omega)]
     rfl
    ·rw [if_neg hik, hx i hi]
     congr 1
     by_cases h : i < k
     ·rw [decide_eq_true h, decide_eq_true (by omega)]
     ·rw [decide_eq_false h, decide_eq_false (by omega)]
   have Hx := hide (show FWInv w g m (.int .i64 ((k + 1 : Nat) : Int)) _ from ⟨k + 1, _, rfl, by omega, h1, hx', hb.grown h2 hb.size fun b e => by cases e; exact hgb.1⟩)
   have hgl := hgb.2
   clear hown hx hb hxl hxk hx0 h1 h2 hx' hgb
   go_wp2_with fail
   exact ⟨Hx.out, by simp [intOf]; omega⟩
  ·have hke : k = m := by omega
   subst hke
   have hki1 : ¬ ((k : Nat) : Int) < (k : Int) := by omega
   have hpl : (List.replicate k (true, zeroEl)).length = k := List.length_replicate ..
   have hbA : Below wr.heap.size wr (wr.alloc (.cells #[.slice (some ⟨g, 0, none⟩) k k] 87)) := (Below.refl _ _).alloc (Nat.le_refl _) _
   have hpat : PatAt (Old wr) wr (List.replicate k (true, zeroEl)) (some ⟨g, 0, none⟩) k := by
    refine ⟨by rw [hpl]; unfold R47; omega, by rw [hpl]; exact Nat.le_refl _, by unfold maxLen; omega, xs, by rw [hpl]; exact Row.of_own hown fun b hb => (hown.lt b hb).2, by rw [hpl]; exact hown.1, fun i p hp => ?_⟩
    have hi : i < k := by have := (List.getElem?_eq_some_iff.1 hp).1; rwa [hpl] at this
    rw [hx i hi, decide_eq_true hi]
    have := (List.getElem?_replicate (n := k) (a := (true, zeroEl)) (i := i)).symm.trans hp
    rw [if_pos hi] at this
    cases this
    exact partC_at _ _ _
   have hpats : PatsAt (Old (wr.alloc (.cells #[.slice (some ⟨g, 0, none⟩) k k] 87))) (wr.alloc (.cells #[.slice (some ⟨g, 0, none⟩) k k] 87)) [List.replicate k (true, zeroEl)] (some ⟨wr.heap.size, 0, none⟩) 1 := by
    refine ⟨by simp [R47], Nat.le_refl _, by simp [maxLen], [.slice (some ⟨g, 0, none⟩) k k], Row.of_bkp (Bk.new wr 87 ([.slice (some ⟨g, 0, none⟩) k k] : List Value).toArray) rfl (by show wr.heap.size < _; rw [World.size_alloc]; omega), Cells.one ⟨some ⟨g, 0, none⟩, k, by rw [hpl], (hpat.keeps (Keeps.below hbA fun _ h => h)).mono fun b hb => Nat.lt_of_lt_of_le hb hbA.size⟩ rfl⟩
   have hbw : Below w.heap.size w (wr.alloc (.cells #[.slice (some ⟨g, 0, none⟩) k k] 87)) := hb.trans (hbA.mono hb.size)
   have HF := hide (HB1.out _ hbw _ _ _ hpats)
   have HLk := hide (HL1.out k)
   have Hbw := hide hbw
   clear hown hx hb hbA hpat hpats hbw hpl HB1 HL1 hgb
   generalize (filtS (setP (pels ls)) (chainM (patP (List.replicate k (true, zeroEl))))).paths.map (List.map E.toREl) = R1 at *
   generalize (specS (pels ls)).map (List.map E.toREl) = R2 at *
   go_wp2_with fail
   refine HF.out.mono ?_
   rintro en w6 ⟨A6, c6, rfl, hp6, hb6⟩
   have HS := hide (HO1.out w6 (Hbw.out.trans (hb6.mono Hbw.out.size)))
   have H6 := hide (And.intro (hp6.mono (G := Old w6) fun b hb => hb.2) (Hbw.out.trans (hb6.mono Hbw.out.size)))
   clear hp6 hb6 HF Hbw HO1
   go_wp2_with fail
   refine HS.out.mono ?_
   rintro en w7 ⟨A7, c7, rfl, hp7, hb7⟩
   have HQ := hide (listed_calls (H6.out.1.at_ hb7) (hp7.mono (G := Old w7) fun b hb => hb.2))
   rw [HLk.out] at HQ
   have H7 := hide (H6.out.2.trans (hb7.mono H6.out.2.size))
   clear hp7 hb7 HS H6
   go_wp2_with fail
   refine HQ.out.mono ?_
   rintro en w8 ⟨rfl, hb8⟩
   have H8 := hide (H7.out.trans (hb8.mono H7.out.size))
   clear hb8 HQ
   go_wp2
   go_ret
   exact ⟨rfl, H8.out⟩

end Go.Proofs.YtbicoknghdgahaaGreat
