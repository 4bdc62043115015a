/- Parts: SpecSetOf, AlgQ, UnionP. -/
import Derived.Test.YtbicoknghdgahaaGreatKG01
import Derived.Test.YtbicoknghdgahaaGreatSA02
import Derived.Test.YtbicoknghdgahaaGreatSA03
set_option linter.unusedVariables false
set_option linter.unusedSimpArgs false
namespace Go.Proofs.YtbicoknghdgahaaGreat
open Go.RowKit
attribute [local go_sem] run_store_float

theorem insrow_copy' {P : Program} {w : World} {e dT sT : TypeId} {k n i c g o1 o2 : Nat} {cur : Array Value} {xs : List Value} (hu : P.underlying dT = some (.slice e)) (hs : (P.info? e).map (·.size) = some k) (hg : w.heap[g]? = some (.cells cur e (0, 0))) (hnc : n + 1 ≤ c) (hcs : cur.size = c * k) (hct : cur.toList.take (n * k) = xs)
  (hx : xs.length = n * k) (hi : i < n) (h1 : ∀ u ∈ xs, u.oneCell' = true) (ty : TypeId) (dl dc sl sc : Nat) (hdl : dl = n - i) (hsl : sl = n + 1 - i) (ho1 : o1 = (i + 1) * k) (ho2 : o2 = i * k) :
  (Builtin.copy_ #[dT, sT] ty #[.slice (some ⟨g, o1, none⟩) dl dc, .slice (some ⟨g, o2, none⟩) sl sc]).run P w = .ok (goInt ((n - i : Nat) : Int)) (w.setRow g (shifted k i xs cur)) := by
 subst ho1 ho2
 exact insrow_copy hu hs hg hnc hcs hct hx hi h1 ty dl dc sl sc hdl hsl

def specS (l : List (List E)) : List (List E) := l.foldl (fun a p => if p = [] then a else insC wcmp p a) []
theorem specS_snoc (l : List (List E)) (p : List E) : specS (l ++ [p]) = if p = [] then specS l else insC wcmp p (specS l) := by simp [specS]
theorem specS_props : ∀ {l : List (List E)}, (∀ p ∈ l, POk p) → ∀ a : List (List E), (∀ p ∈ a, POk p) → SortC wcmp a → (∀ p ∈ l.foldl (fun a p => if p = [] then a else insC wcmp p a) a, POk p) ∧ SortC wcmp (l.foldl (fun a p => if p = [] then a else insC wcmp p a) a) ∧ (l.foldl (fun a p => if p = [] then a else insC wcmp p a) a).length ≤ a.length + l.length ∧
  (∀ x, POk x → (HasC wcmp (l.foldl (fun a p => if p = [] then a else insC wcmp p a) a) x ↔ HasC wcmp a x ∨ ∃ p ∈ l, p ≠ [] ∧ wcmp p x = 0)) ∧ (∀ p ∈ l.foldl (fun a p => if p = [] then a else insC wcmp p a) a, p ∈ a ∨ (p ∈ l ∧ p ≠ []))
 | [], _, a, ha, hs => ⟨ha, hs, by simp, fun x _ => by simp, fun p hp => .inl hp⟩
 | p :: l, h, a, ha, hs => by
  have hp := h p (by simp)
  have hl : ∀ q ∈ l, POk q := fun q hq => h q (List.mem_cons_of_mem _ hq)
  rw [List.foldl_cons]
  by_cases hp0 : p = []
  ·rw [if_pos hp0]
   obtain ⟨h1, h2, h3, h4, h5⟩ := specS_props hl a ha hs
   refine ⟨h1, h2, by rw [List.length_cons]; omega, fun x hx => ?_, fun q hq => ?_⟩
   ·rw [h4 x hx]
    constructor
    ·rintro (h6 | ⟨q, h6, h7, h8⟩)
     ·exact .inl h6
     ·exact .inr ⟨q, by simp [h6], h7, h8⟩
    ·rintro (h6 | ⟨q, h6, h7, h8⟩)
     ·exact .inl h6
     ·rcases List.mem_cons.1 h6 with rfl | h6
      ·exact absurd hp0 h7
      ·exact .inr ⟨q, h6, h7, h8⟩
   ·rcases h5 q hq with h6 | ⟨h6, h7⟩
    ·exact .inl h6
    ·exact .inr ⟨by simp [h6], h7⟩
  ·rw [if_neg hp0]
   obtain ⟨h1, h2, h3, h4, h5⟩ := specS_props hl (insC wcmp p a) (insC_ok hp ha) (insC_sorted wcmp_ord hp ha hs)
   have := insC_length (c := wcmp) p a
   refine ⟨h1, h2, by rw [List.length_cons]; omega, fun x hx => ?_, fun q hq => ?_⟩
   ·rw [h4 x hx, HasC_insC wcmp_ord hp hx ha]
    constructor
    ·rintro ((h6 | h6) | ⟨q, h6, h7, h8⟩)
     ·exact .inr ⟨p, by simp, hp0, h6⟩
     ·exact .inl h6
     ·exact .inr ⟨q, by simp [h6], h7, h8⟩
    ·rintro (h6 | ⟨q, h6, h7, h8⟩)
     ·exact .inl (.inr h6)
     ·rcases List.mem_cons.1 h6 with rfl | h6
      ·exact .inl (.inl h8)
      ·exact .inr ⟨q, h6, h7, h8⟩
   ·rcases h5 q hq with h6 | ⟨h6, h7⟩
    ·rcases mem_insC h6 with rfl | h6
     ·exact .inr ⟨by simp, hp0⟩
     ·exact .inl h6
    ·exact .inr ⟨by simp [h6], h7⟩
theorem specS_ok {l : List (List E)} (h : ∀ p ∈ l, POk p) : (∀ p ∈ specS l, POk p) ∧ SortC wcmp (specS l) ∧ (specS l).length ≤ l.length := by
 obtain ⟨h1, h2, h3, -, -⟩ := specS_props h [] (by simp) List.Pairwise.nil
 rw [List.length_nil, Nat.zero_add] at h3
 exact ⟨h1, h2, h3⟩
theorem specS_mem {l : List (List E)} (h : ∀ p ∈ l, POk p) {p : List E} (hp : p ∈ specS l) : p ∈ l ∧ p ≠ [] := by
 rcases (specS_props h [] (by simp) List.Pairwise.nil).2.2.2.2 p hp with h1 | h1
 ·simp at h1
 ·exact h1
def SOInv (w : World) (ps : List (List E)) (s3 s9 : Value) (W : World) : Prop :=
 ∃ (k : Nat) (us : List Value), s9 = .int .i64 (k : Int) ∧ k ≤ ps.length ∧ W.ownsRow w.heap.size 22 1 s3 (specS (ps.take k)).length us ∧ Cells 1 (PQ (FrX w.heap.size W s3) W) ((specS (ps.take k)).map (List.map E.toREl)) us ∧ Below w.heap.size w W

set_option maxRecDepth 100000 in
set_option maxHeartbeats 8000000 in
theorem setOf_calls {ls : List (List REl)} {A : Option Addr} {c : Nat} {w : World} (h : PathsAt (Old w) w ls A c) (hok : ∀ p ∈ pels ls, POk p) : Calls Tryz.prog 23 #[.slice A ls.length c] w (GivesPaths ((specS (pels ls)).map (List.map E.toREl)) w) := by
 obtain ⟨h1, h2, h3, xs, h4, h5⟩ := h
 have h1' : ls.length * 24 ≤ 140737488351232 := h1
 obtain ⟨i9, hi9, hz9, hs9, hb9⟩ := info_parts paths_info
 have H7 := hide (And.intro h4 h5)
 have Hok := hide hok
 have Hpl := hide (show (pels ls).length = ls.length from List.length_map _)
 clear h1 h4 h5 hok
 go_enter Tryz.func23, Tryz.ntmps23
 go_wp2_with fail
 go_loopw [3, 10] (fun s3 s9 W => SOInv w (pels ls) s3 s9 W) (fun _ s _ => ls.length - (intOf s).toNat)
 case atStart => exact ⟨0, [], rfl, Nat.zero_le _, World.ownsRow_nil _ _ _ _, Cells.nil_, Below.refl _ _⟩
 case round =>
  obtain ⟨k, us, rfl, hk, hown, hus, hb⟩ := hrel
  rw [Hpl.out] at hk
  by_cases hlt : k < ls.length
  ·have hki0 : (0 : Int) ≤ (k : Int) := Int.natCast_nonneg _
   have hki1 : (k : Int) < (ls.length : Int) := by omega
   have hx := H7.out.2.at_ hlt
   have hsn : (pels ls).take (k + 1) = (pels ls).take k ++ [pel ls[k]] := by rw [List.take_succ_eq_append_getElem (by rw [Hpl.out]; exact hlt)]; simp [pels]
   have heo : POk (pel ls[k]) := Hok.out _ (by simp [pels]; exact ⟨_, List.getElem_mem _, rfl⟩)
   have hok1 : ∀ p ∈ (pels ls).take k, POk p := fun p hp => Hok.out p (List.mem_of_mem_take hp)
   have hpk := specS_ok hok1
   have hws : ∀ p ∈ specS ((pels ls).take k), PWS p := fun p hp => pels_pws (List.mem_of_mem_take (specS_mem hok1 hp).1)
   have hse : specS ((pels ls).take (k + 1)) = if pel ls[k] = [] then specS ((pels ls).take k) else insC wcmp (pel ls[k]) (specS ((pels ls).take k)) := by rw [hsn, specS_snoc]
   have hlk : (specS ((pels ls).take k)).length ≤ k := by have := hpk.2.2; rw [List.length_take, Hpl.out] at this; omega
   clear hsn hok1
   have hpk := And.intro hpk.1 hpk.2.1
   generalize ls[k] = x at *
   generalize specS ((pels ls).take k) = S at *
   obtain ⟨n, hn⟩ : ∃ n, S.length = n := ⟨_, rfl⟩
   rw [hn] at hown hlk
   have Hn := hide hn
   obtain ⟨oA, oc, rfl, hoc1, hoc2⟩ := own_form hown
   obtain ⟨B, d, ecs, hx⟩ := hx
   obtain ⟨rb, ro, rfl, hF, hc⟩ := rown_at H7.out.1 hlt ecs
   have m0 := ((bcell hb).1 _ _ hF).trans (hc 0 _ rfl)
   rw [Nat.mul_one, Nat.add_zero] at m0
   have hrb : rb < w.heap.size := hF
   obtain ⟨wo, hwo⟩ : ∃ W, W = wr := ⟨_, rfl⟩
   subst hwo
   have hwe : w.heap.size ≤ wo.heap.size := hb.size
   have hx47 : x.length * 168 ≤ 140737488351232 := hx.1
   by_cases hx0 : x = []
   ·subst hx0
    rw [if_pos (show pel [] = [] from rfl)] at hse
    have Hfin := hide (show wo.ownsRow w.heap.size 22 1 (.slice oA n oc) (specS ((pels ls).take (k + 1))).length us ∧ Cells 1 (PQ (FrX w.heap.size wo (.slice oA n oc)) wo) ((specS ((pels ls).take (k + 1))).map (List.map E.toREl)) us ∧ Below w.heap.size w wo from by rw [hse, hn]; exact ⟨hown, hus, hb⟩)
    clear hown hus hb hx ecs hc hF hpk hws hse heo hn
    go_wp2_with fail
    exact ⟨⟨k + 1, us, by go_num, by rw [Hpl.out]; omega, Hfin.out.1, Hfin.out.2.1, Hfin.out.2.2⟩, by simp [intOf]; omega⟩
   have hpx0 : ¬ pel x = [] := fun e => hx0 (by cases x with | nil => rfl | cons a l => simp [pel] at e)
   rw [if_neg hpx0] at hse
   have hxl : ¬ (x.length : Int) = 0 := by
    cases x with
    | nil => exact absurd rfl hx0
    | cons a l => simp; omega
   have hxb : ((x.length : Int) == 0) = false := beq_eq_false_iff_ne.2 hxl
   have hback := pelsP_back hws
   have hrows : PathsAt (Old wo) wo (S.map (List.map E.toREl)) oA oc := ⟨by rw [List.length_map, hn]; unfold R47; omega, by rw [List.length_map, hn]; exact hoc1, hoc2, us, by rw [List.length_map, hn]; exact Row.of_own hown fun b hb => (hown.lt b hb).2, hus.mono fun a cs h => PQ.mono h fun b hb => hb.2.1⟩
   have HP := hide (place_calls hrows (hx.at_ hb) (by rw [hback]; exact hpk.1) heo (by rw [hback]; exact hpk.2))
   rw [hback, List.length_map, hn] at HP
   have hcn := cntC_le (c := wcmp) (pel x) S
   rw [hn] at hcn
   have Hones := hide (pq_ones hus)
   have Hclean := hide fun (W : World) (hb : Below w.heap.size w W) => cleanPath_calls (hx.at_ hb)
   have Hq := hide (And.intro hown (And.intro hus (And.intro (show us.length = n * 1 from hown.1) (And.intro hb (And.intro hpk (And.intro hws (And.intro hse heo)))))))
   clear hown hus hb hx ecs hc hF hpk hws hse heo hn hx0 hpx0 hback hrows
   obtain ⟨hh, hhe⟩ : ∃ hh, hasC wcmp (pel x) S = hh := ⟨_, rfl⟩
   have hins0 := insC_eq (c := wcmp) (pel x) S
   rw [hhe] at HP hins0
   generalize cntC wcmp (pel x) S = cnt at *
   have Hins0 := hide hins0
   clear hins0 hhe
   go_wp2_with fail
   refine HP.out.mono ?_
   rintro en wx ⟨rfl, hbx⟩
   have Hx := hide hbx
   have hwx : wo.heap.size ≤ wx.heap.size := hbx.size
   clear hbx HP m0
   cases hh
   case true =>
    have hfin : wx.ownsRow w.heap.size 22 1 (.slice oA n oc) (specS ((pels ls).take (k + 1))).length us ∧ Cells 1 (PQ (FrX w.heap.size wx (.slice oA n oc)) wx) ((specS ((pels ls).take (k + 1))).map (List.map E.toREl)) us ∧ Below w.heap.size w wx := by
     rw [Hq.out.2.2.2.2.2.2.1, Hins0.out, if_pos rfl, Hn.out]
     exact ⟨ownsRow_below Hq.out.1 Hx.out (Nat.le_refl _), Hq.out.2.1.mono fun a cs h => PQ.mono (PQ.keeps h (Keeps.below Hx.out fun b hb => hb.2.1)) fun b hb => ⟨hb.1, Nat.lt_of_lt_of_le hb.2.1 Hx.out.size, hb.2.2⟩, Hq.out.2.2.2.1.trans (Hx.out.mono Hq.out.2.2.2.1.size)⟩
    have Hfin := hide hfin
    clear hfin
    go_wp2_with fail
    exact ⟨⟨k + 1, us, by go_num, by rw [Hpl.out]; omega, Hfin.out.1, Hfin.out.2.1, Hfin.out.2.2⟩, by simp [intOf]; omega⟩
   case false =>
    have hins : insC wcmp (pel x) S = S.take cnt ++ pel x :: S.drop cnt := by rw [Hins0.out, if_neg (by decide)]
    have Hins := hide hins
    clear hins Hins0
    go_wp2_with (at_builtin; go_loud (refine wpList_append_row _ rfl (.tmp 24) (.tmp 25) 36 rfl w.heap.size 22 i9 _ 1 24 Tryz.underlying36 hi9 hz9 hs9 hb9 rfl (by omega) _ n us rfl ((ownsRow_below Hq.out.1 Hx.out (Nat.le_refl _)).alloc _) (fun _ => True) (some ⟨wx.heap.size, 0, none⟩) 1 1 [.slice none 0 0] rfl (Row.of_bkp (Bk.new wx 22 ([.slice none 0 0] : List Value).toArray) rfl trivial) (by simp [Value.oneCell']) (by omega) (by omega) (by rw [World.size_alloc]; omega) ?_))
    intro out' w3 hown3 hg3 hat3
    obtain ⟨oA', oc', rfl, hoc1, hoc2⟩ := own_form hown3
    obtain ⟨g, cur, rfl, hgB, hgc, hnc, hcm, hcs, hct⟩ := insrow_open (k := 1) (by decide) hown3 Hq.out.2.2.1
    have hcm' : oc' ≤ 9223372036854775807 := hcm
    have hlo := Hq.out.1.lt
    have hb3 : Below w.heap.size w w3 := ((Hq.out.2.2.2.1.trans (Hx.out.mono Hq.out.2.2.2.1.size)).alloc (by omega) _).grown hg3 (by rw [World.size_alloc]; omega) fun k e => (hlo k e).1
    have hkO : ∀ b, FrX w.heap.size wo (.slice oA n oc) b → w3.heap[b]? = wo.heap[b]? ∧ b ≠ g ∧ b < w3.heap.size := by
     rintro b ⟨q1, q2, q3⟩
     have h2 := hg3.size
     rw [World.size_alloc] at h2
     refine ⟨by rw [hg3.block b (by rw [World.size_alloc]; omega) q3, Below.heap_alloc _ _ _ (by omega), Hx.out.block b q2], ?_, by omega⟩
     rcases hat3 with e | e
     ·intro e2; subst e2; exact q3 e
     ·intro e2; have e3 := Option.some.inj e; have e4 : g = _ := e3; omega
    have H3 := hide (And.intro hgc (And.intro hb3 hkO))
    have Hcur := hide (And.intro hcs hct)
    have hgl3 := (Array.getElem?_eq_some_iff.1 hgc).1
    have hw30 : w.heap.size ≤ w3.heap.size := hb3.size
    clear hown3 hg3 hat3 hgc hcs hct hb3 hlo hkO
    have hii : (0 : Int) ≤ (cnt : Int) := by omega
    have hii1 : (0 : Int) ≤ (cnt : Int) + 1 := by omega
    have hin : (cnt : Int) ≤ (n : Int) := by omega
    have hw1 : IntKind.i64.wrap ((cnt : Int) + 1) = (cnt : Int) + 1 := IntWalk.i64_in _ (by omega)
    have htn : ((cnt : Int) + 1 : Int).toNat = cnt + 1 := by omega
    have hle1 : (cnt : Int) + 1 ≤ (n : Int) + 1 := by omega
    have hle2 : (cnt : Int) ≤ (n : Int) + 1 := by omega
    have hlt3 : (cnt : Int) < (n : Int) + 1 := by omega
    have hlc : (n : Int) + 1 ≤ (oc' : Int) := by omega
    by_cases hend : n = cnt
    ·have Hend := hide hend
     have hend1 : n ≤ cnt := by omega
     clear hend
     have hb4 : ¬ oc' = cnt := by omega
     by_cases hcap : oc' = cnt + 1
     ·subst hcap
      go_wp2_with fail
      go_still_tail 7, (by kernel_rfl)
      change wpList _ _ _ _ _ w3.drew
      refine wpList_copy_eq _ rfl _ _ 36 36 rfl _ _ rfl rfl (run_copy_zero w3.drew 36 36 _ 22 1 _ _ _ _ _ _ (by have := Hend.out; omega) Tryz.underlying36 (by kernel_rfl)) ?_
      have hsh : shifted 1 cnt us cur = cur := by rw [show cnt = n from Hend.out.symm]; exact shifted_end Hq.out.2.2.1
      have H4 := hide (show Below w.heap.size w w3.drew ∧ w3.drew.heap[g]? = some (.cells (shifted 1 cnt us cur) 22 (0, 0)) ∧ (∀ b, FrX w.heap.size wo (.slice oA n oc) b → w3.drew.heap[b]? = wo.heap[b]? ∧ b ≠ g ∧ b < w3.drew.heap.size) ∧ g < w3.drew.heap.size ∧ True from
       ⟨below_drew H3.out.2.1, by rw [hsh]; exact H3.out.1, H3.out.2.2, hgl3, trivial⟩)
      clear hsh H3
      clear hii1 hw1 htn hle1 hle2 hin
      generalize w3.drew = w4 at *

      have hg4l := H4.out.2.2.2.1
      go_wp2_with fail
      refine (Hclean.out w4 H4.out.1).mono ?_
      rintro en w5 ⟨B', d', rfl, hpp, hb5⟩
      obtain ⟨pn, hpn⟩ : ∃ pn, ((pel x).map E.toREl).length = pn := ⟨_, rfl⟩
      have hg5 : w5.heap[g]? = some (.cells (shifted 1 cnt us cur) 22 (0, 0)) := (hb5.block g hg4l).trans H4.out.2.1
      have hsz5 := shifted_size (k := 1) (i := cnt) Hq.out.2.2.1 Hcur.out.1 hcn hnc
      obtain ⟨ar, har⟩ : ∃ ar, ((shifted 1 cnt us cur).toList.take (cnt * 1) ++ ([.slice B' pn d'] : List Value) ++ (shifted 1 cnt us cur).toList.drop (cnt * 1 + ([.slice B' pn d'] : List Value).length)).toArray = ar := ⟨_, rfl⟩
      have hfin := insrow_close (i := cnt) (vs := ([.slice B' pn d'] : List Value)) hgB hg5 hnc hcm Hcur.out.1 Hcur.out.2 Hq.out.2.2.1 rfl hcn
      rw [har] at hfin
      have hcells : Cells 1 (PQ (FrX w.heap.size (w5.setRow g ar) (.slice (some ⟨g, 0, none⟩) (n + 1) (cnt + 1))) (w5.setRow g ar)) ((specS ((pels ls).take (k + 1))).map (List.map E.toREl)) (laid 1 cnt ([.slice B' pn d'] : List Value) us) := by
       have e1 : (specS ((pels ls).take (k + 1))).map (List.map E.toREl) = (S.map (List.map E.toREl)).take cnt ++ (pel x).map E.toREl :: (S.map (List.map E.toREl)).drop cnt := by rw [Hq.out.2.2.2.2.2.2.1, Hins.out]; simp
       rw [e1]
       refine cells_laid (Hq.out.2.1.mono fun a cs h => PQ.mono (PQ.keeps h fun b hb => ?_) fun b hb => ⟨hb.1, ?_, ?_⟩) ⟨B', d', by rw [hpn], (hpp.keeps fun b hb => ?_).mono fun b hb => ⟨?_, ?_, ?_⟩⟩ rfl (by rw [List.length_map, Hn.out]; omega)
       ·have h1 := H4.out.2.2.1 b hb
        rw [setRow_other _ _ _ h1.2.1, hb5.block b h1.2.2]
        exact h1.1
       ·rw [(setRow_same _ _ _).2.2.2]
        exact Nat.lt_of_lt_of_le (H4.out.2.2.1 b hb).2.2 hb5.size
       ·intro e; exact (H4.out.2.2.1 b hb).2.1 (Option.some.inj e)
       ·rw [setRow_other _ _ _ (by have := hb.1; omega)]
       ·have := hb.1; have := H4.out.1.size; omega
       ·rw [(setRow_same _ _ _).2.2.2]; exact hb.2
       ·intro e; have e4 : b = g := Option.some.inj e; have := hb.1; omega
      have hbf : Below w.heap.size w (w5.setRow g ar) := below_setRow (H4.out.1.trans (hb5.mono H4.out.1.size)) hgB _
      have hlen : (specS ((pels ls).take (k + 1))).length = n + 1 := by rw [Hq.out.2.2.2.2.2.2.1, Hins.out]; simp [Hn.out]; omega
      have Hf := hide (And.intro hfin (And.intro hcells (And.intro hbf hlen)))
      have Hg5 := hide (And.intro hg5 (And.intro hsz5 har))
      rw [hpn]
      clear hpp hb5 hg5 hsz5 har hfin hcells hbf hlen H4 Hq Hx Hcur hpn
      go_wp2_with (refine wpList_store_val (op := ⟨none, _, _, _, _, _⟩) rfl _ (.tmp 39) (.tmp 38) rfl g (cnt * 1) 22 (.slice B' pn d') #[.slice B' pn d'] (shifted 1 cnt us cur) ar (by rw [Nat.mul_one]; rfl) rfl rfl Hg5.out.1 (by rw [Hg5.out.2.1]; simp <;> omega) (by kernel_rfl) (by simp [Value.oneCell']) Hg5.out.2.2 ?_)
      exact ⟨⟨k + 1, _, by go_num, by rw [Hpl.out]; omega, by rw [Hf.out.2.2.2]; exact Hf.out.1, Hf.out.2.1, Hf.out.2.2.1⟩, by simp [intOf]; omega⟩
     ·have hb2 : ¬ oc' = cnt + 1 := hcap
      go_wp2_with fail
      go_still_tail 7, (by kernel_rfl)
      change wpList _ _ _ _ _ w3.drew
      refine wpList_copy_eq _ rfl _ _ 36 36 rfl _ _ rfl rfl (run_copy_zero w3.drew 36 36 _ 22 1 _ _ _ _ _ _ (by have := Hend.out; omega) Tryz.underlying36 (by kernel_rfl)) ?_
      have hsh : shifted 1 cnt us cur = cur := by rw [show cnt = n from Hend.out.symm]; exact shifted_end Hq.out.2.2.1
      have H4 := hide (show Below w.heap.size w w3.drew ∧ w3.drew.heap[g]? = some (.cells (shifted 1 cnt us cur) 22 (0, 0)) ∧ (∀ b, FrX w.heap.size wo (.slice oA n oc) b → w3.drew.heap[b]? = wo.heap[b]? ∧ b ≠ g ∧ b < w3.drew.heap.size) ∧ g < w3.drew.heap.size ∧ True from
       ⟨below_drew H3.out.2.1, by rw [hsh]; exact H3.out.1, H3.out.2.2, hgl3, trivial⟩)
      clear hsh H3
      clear hii1 hw1 htn hle1 hle2 hin
      generalize w3.drew = w4 at *

      have hg4l := H4.out.2.2.2.1
      go_wp2_with fail
      refine (Hclean.out w4 H4.out.1).mono ?_
      rintro en w5 ⟨B', d', rfl, hpp, hb5⟩
      obtain ⟨pn, hpn⟩ : ∃ pn, ((pel x).map E.toREl).length = pn := ⟨_, rfl⟩
      have hg5 : w5.heap[g]? = some (.cells (shifted 1 cnt us cur) 22 (0, 0)) := (hb5.block g hg4l).trans H4.out.2.1
      have hsz5 := shifted_size (k := 1) (i := cnt) Hq.out.2.2.1 Hcur.out.1 hcn hnc
      obtain ⟨ar, har⟩ : ∃ ar, ((shifted 1 cnt us cur).toList.take (cnt * 1) ++ ([.slice B' pn d'] : List Value) ++ (shifted 1 cnt us cur).toList.drop (cnt * 1 + ([.slice B' pn d'] : List Value).length)).toArray = ar := ⟨_, rfl⟩
      have hfin := insrow_close (i := cnt) (vs := ([.slice B' pn d'] : List Value)) hgB hg5 hnc hcm Hcur.out.1 Hcur.out.2 Hq.out.2.2.1 rfl hcn
      rw [har] at hfin
      have hcells : Cells 1 (PQ (FrX w.heap.size (w5.setRow g ar) (.slice (some ⟨g, 0, none⟩) (n + 1) oc')) (w5.setRow g ar)) ((specS ((pels ls).take (k + 1))).map (List.map E.toREl)) (laid 1 cnt ([.slice B' pn d'] : List Value) us) := by
       have e1 : (specS ((pels ls).take (k + 1))).map (List.map E.toREl) = (S.map (List.map E.toREl)).take cnt ++ (pel x).map E.toREl :: (S.map (List.map E.toREl)).drop cnt := by rw [Hq.out.2.2.2.2.2.2.1, Hins.out]; simp
       rw [e1]
       refine cells_laid (Hq.out.2.1.mono fun a cs h => PQ.mono (PQ.keeps h fun b hb => ?_) fun b hb => ⟨hb.1, ?_, ?_⟩) ⟨B', d', by rw [hpn], (hpp.keeps fun b hb => ?_).mono fun b hb => ⟨?_, ?_, ?_⟩⟩ rfl (by rw [List.length_map, Hn.out]; omega)
       ·have h1 := H4.out.2.2.1 b hb
        rw [setRow_other _ _ _ h1.2.1, hb5.block b h1.2.2]
        exact h1.1
       ·rw [(setRow_same _ _ _).2.2.2]
        exact Nat.lt_of_lt_of_le (H4.out.2.2.1 b hb).2.2 hb5.size
       ·intro e; exact (H4.out.2.2.1 b hb).2.1 (Option.some.inj e)
       ·rw [setRow_other _ _ _ (by have := hb.1; omega)]
       ·have := hb.1; have := H4.out.1.size; omega
       ·rw [(setRow_same _ _ _).2.2.2]; exact hb.2
       ·intro e; have e4 : b = g := Option.some.inj e; have := hb.1; omega
      have hbf : Below w.heap.size w (w5.setRow g ar) := below_setRow (H4.out.1.trans (hb5.mono H4.out.1.size)) hgB _
      have hlen : (specS ((pels ls).take (k + 1))).length = n + 1 := by rw [Hq.out.2.2.2.2.2.2.1, Hins.out]; simp [Hn.out]; omega
      have Hf := hide (And.intro hfin (And.intro hcells (And.intro hbf hlen)))
      have Hg5 := hide (And.intro hg5 (And.intro hsz5 har))
      rw [hpn]
      clear hpp hb5 hg5 hsz5 har hfin hcells hbf hlen H4 Hq Hx Hcur hpn
      go_wp2_with (refine wpList_store_val (op := ⟨none, _, _, _, _, _⟩) rfl _ (.tmp 39) (.tmp 38) rfl g (cnt * 1) 22 (.slice B' pn d') #[.slice B' pn d'] (shifted 1 cnt us cur) ar (by rw [Nat.mul_one]; rfl) rfl rfl Hg5.out.1 (by rw [Hg5.out.2.1]; simp <;> omega) (by kernel_rfl) (by simp [Value.oneCell']) Hg5.out.2.2 ?_)
      exact ⟨⟨k + 1, _, by go_num, by rw [Hpl.out]; omega, by rw [Hf.out.2.2.2]; exact Hf.out.1, Hf.out.2.1, Hf.out.2.2.1⟩, by simp [intOf]; omega⟩
    ·have hb2 : ¬ oc' = cnt + 1 := by omega
     have hb4 : ¬ oc' = cnt := by omega
     go_wp2_with fail
     go_still_tail 7, (by kernel_rfl)
     change wpList _ _ _ _ _ w3.drew
     refine wpList_copy_eq _ rfl _ _ 36 36 rfl _ _ rfl rfl (insrow_copy' (w := w3.drew) (k := 1) (i := cnt) (o1 := cnt + 1) (o2 := cnt) Tryz.underlying36 (by kernel_rfl) H3.out.1 hnc Hcur.out.1 Hcur.out.2 Hq.out.2.2.1 (by omega) Hones.out _ _ _ _ _ (by omega) (by omega) (by omega) (by omega)) ?_
     have H4 := hide (show Below w.heap.size w (w3.drew.setRow g (shifted 1 cnt us cur)) ∧ (w3.drew.setRow g (shifted 1 cnt us cur)).heap[g]? = some (.cells (shifted 1 cnt us cur) 22 (0, 0)) ∧ (∀ b, FrX w.heap.size wo (.slice oA n oc) b → (w3.drew.setRow g (shifted 1 cnt us cur)).heap[b]? = wo.heap[b]? ∧ b ≠ g ∧ b < (w3.drew.setRow g (shifted 1 cnt us cur)).heap.size) ∧ g < (w3.drew.setRow g (shifted 1 cnt us cur)).heap.size ∧ True from
      ⟨below_setRow (below_drew H3.out.2.1) hgB _, setRow_heap w3.drew g cur _ 22 (0, 0) H3.out.1, fun b hb => ⟨(setRow_other _ _ _ (H3.out.2.2 b hb).2.1).trans (H3.out.2.2 b hb).1, (H3.out.2.2 b hb).2.1, by rw [(setRow_same _ _ _).2.2.2]; exact (H3.out.2.2 b hb).2.2⟩, by rw [(setRow_same _ _ _).2.2.2]; exact hgl3, trivial⟩)
     clear H3
     clear hii1 hw1 htn hle1 hle2 hin
     generalize w3.drew.setRow g _ = w4 at *

     have hg4l := H4.out.2.2.2.1
     go_wp2_with fail
     refine (Hclean.out w4 H4.out.1).mono ?_
     rintro en w5 ⟨B', d', rfl, hpp, hb5⟩
     obtain ⟨pn, hpn⟩ : ∃ pn, ((pel x).map E.toREl).length = pn := ⟨_, rfl⟩
     have hg5 : w5.heap[g]? = some (.cells (shifted 1 cnt us cur) 22 (0, 0)) := (hb5.block g hg4l).trans H4.out.2.1
     have hsz5 := shifted_size (k := 1) (i := cnt) Hq.out.2.2.1 Hcur.out.1 hcn hnc
     obtain ⟨ar, har⟩ : ∃ ar, ((shifted 1 cnt us cur).toList.take (cnt * 1) ++ ([.slice B' pn d'] : List Value) ++ (shifted 1 cnt us cur).toList.drop (cnt * 1 + ([.slice B' pn d'] : List Value).length)).toArray = ar := ⟨_, rfl⟩
     have hfin := insrow_close (i := cnt) (vs := ([.slice B' pn d'] : List Value)) hgB hg5 hnc hcm Hcur.out.1 Hcur.out.2 Hq.out.2.2.1 rfl hcn
     rw [har] at hfin
     have hcells : Cells 1 (PQ (FrX w.heap.size (w5.setRow g ar) (.slice (some ⟨g, 0, none⟩) (n + 1) oc')) (w5.setRow g ar)) ((specS ((pels ls).take (k + 1))).map (List.map E.toREl)) (laid 1 cnt ([.slice B' pn d'] : List Value) us) := by
      have e1 : (specS ((pels ls).take (k + 1))).map (List.map E.toREl) = (S.map (List.map E.toREl)).take cnt ++ (pel x).map E.toREl :: (S.map (List.map E.toREl)).drop cnt := by rw [Hq.out.2.2.2.2.2.2.1, Hins.out]; simp
      rw [e1]
      refine cells_laid (Hq.out.2.1.mono fun a cs h => PQ.mono (PQ.keeps h fun b hb => ?_) fun b hb => ⟨hb.1, ?_, ?_⟩) ⟨B', d', by rw [hpn], (hpp.keeps fun b hb => ?_).mono fun b hb => ⟨?_, ?_, ?_⟩⟩ rfl (by rw [List.length_map, Hn.out]; omega)
      ·have h1 := H4.out.2.2.1 b hb
       rw [setRow_other _ _ _ h1.2.1, hb5.block b h1.2.2]
       exact h1.1
      ·rw [(setRow_same _ _ _).2.2.2]
       exact Nat.lt_of_lt_of_le (H4.out.2.2.1 b hb).2.2 hb5.size
      ·intro e; exact (H4.out.2.2.1 b hb).2.1 (Option.some.inj e)
      ·rw [setRow_other _ _ _ (by have := hb.1; omega)]
      ·have := hb.1; have := H4.out.1.size; omega
      ·rw [(setRow_same _ _ _).2.2.2]; exact hb.2
      ·intro e; have e4 : b = g := Option.some.inj e; have := hb.1; omega
     have hbf : Below w.heap.size w (w5.setRow g ar) := below_setRow (H4.out.1.trans (hb5.mono H4.out.1.size)) hgB _
     have hlen : (specS ((pels ls).take (k + 1))).length = n + 1 := by rw [Hq.out.2.2.2.2.2.2.1, Hins.out]; simp [Hn.out]; omega
     have Hf := hide (And.intro hfin (And.intro hcells (And.intro hbf hlen)))
     have Hg5 := hide (And.intro hg5 (And.intro hsz5 har))
     rw [hpn]
     clear hpp hb5 hg5 hsz5 har hfin hcells hbf hlen H4 Hq Hx Hcur hpn
     go_wp2_with (refine wpList_store_val (op := ⟨none, _, _, _, _, _⟩) rfl _ (.tmp 39) (.tmp 38) rfl g (cnt * 1) 22 (.slice B' pn d') #[.slice B' pn d'] (shifted 1 cnt us cur) ar (by rw [Nat.mul_one]; rfl) rfl rfl Hg5.out.1 (by rw [Hg5.out.2.1]; simp <;> omega) (by kernel_rfl) (by simp [Value.oneCell']) Hg5.out.2.2 ?_)
     exact ⟨⟨k + 1, _, by go_num, by rw [Hpl.out]; omega, by rw [Hf.out.2.2.2]; exact Hf.out.1, Hf.out.2.1, Hf.out.2.2.1⟩, by simp [intOf]; omega⟩
  ·have hke : k = ls.length := by omega
   subst hke
   have hki1 : ¬ ((ls.length : Nat) : Int) < (ls.length : Int) := by omega
   have hpl := specS_ok Hok.out
   have hll := hpl.2.2
   rw [List.take_of_length_le (by rw [Hpl.out]; omega)] at hus hown
   rw [Hpl.out] at hll
   obtain ⟨oA, oc, rfl, hc1, hc2⟩ := own_form hown
   have hlt2 := hown.lt
   have hfin : PathsAt (Fr w.heap.size wr) wr ((specS (pels ls)).map (List.map E.toREl)) oA oc := ⟨by rw [List.length_map]; unfold R47; omega, by rw [List.length_map]; exact hc1, hc2, us, by rw [List.length_map]; exact Row.of_own hown hlt2, hus.mono fun a cs h => PQ.mono h fun b hb => ⟨hb.1, hb.2.1⟩⟩
   have H3 := hide (And.intro hb hfin)
   have Hlm := hide (show ((specS (pels ls)).map (List.map E.toREl)).length = (specS (pels ls)).length from List.length_map _)
   clear hb hown hus hlt2 hc1 hc2 hfin hpl hll
   go_wp2
   go_ret
   exact ⟨oA, oc, by rw [Hlm.out]; rfl, H3.out.2, H3.out.1⟩

end Go.Proofs.YtbicoknghdgahaaGreat

namespace Go.Proofs.YtbicoknghdgahaaGreat

theorem not_emp_has {s : St} (h : s.emp = false) : ∃ p, p ∈ s.paths := by
 cases hp : s.paths with
 | nil => rw [emp_paths.2 hp] at h; cases h
 | cons p l => exact ⟨p, by simp⟩
theorem insC_mem_ne {e : E} (l : List E) : insC E.cmp e l ≠ [] := by
 cases l with
 | nil => simp [insC]
 | cons a l => rw [insC]; split <;> (try split) <;> simp
theorem insK_ne {e : E} {f : St → St} (ks : List (E × St)) : ∃ k ∈ insK e f ks, ∃ t, k.2 = f t := by
 induction ks with
 | nil => exact ⟨(e, f St.empty), by simp [insK], _, rfl⟩
 | cons a ks ih =>
  rw [insK]
  split
  ·obtain ⟨k, h1, h2⟩ := ih; exact ⟨k, by simp [h1], h2⟩
  ·split
   ·exact ⟨(a.1, f a.2), by simp, a.2, rfl⟩
   ·exact ⟨(e, f St.empty), by simp, St.empty, rfl⟩
theorem ins_emp : ∀ {p : List E} {s : St}, p ≠ [] → (St.ins p s).emp = false
 | [], _, h => absurd rfl h
 | [e], s, _ => by
  cases he : (St.ins [e] s).emp
  ·rfl
  ·exact absurd (emp_mk.1 he).1 (insC_mem_ne _)
 | e :: x :: p, s, _ => by
  cases he : (St.ins (e :: x :: p) s).emp
  ·rfl
  ·obtain ⟨k, h1, t, h2⟩ := insK_ne (e := e) (f := St.ins (x :: p)) s.kids
   have := (emp_mk.1 he).2 k h1
   rw [h2, ins_emp (by simp)] at this
   cases this
theorem ins_full : ∀ {p : List E} {s : St}, s.Full → (St.ins p s).Full
 | [], _, h => h
 | [e], s, h => by
  cases h with
  | mk h1 h2 => exact .mk h1 h2
 | e :: x :: p, s, h => by
  cases h with
  | mk h1 h2 =>
  refine .mk (fun k hk => ?_) fun k hk => ?_
  ·rcases mem_insK hk with rfl | ⟨k', h6, rfl⟩ | hk
   ·exact ins_emp (by simp)
   ·exact ins_emp (by simp)
   ·exact h1 k hk
  ·rcases mem_insK hk with rfl | ⟨k', h6, rfl⟩ | hk
   ·exact ins_full .empty_
   ·exact ins_full (h2 k' h6)
   ·exact h2 k hk
theorem setP_full (l : List (List E)) : (setP l).Full := by
 have : ∀ (l : List (List E)) (s : St), s.Full → (l.foldl (fun s p => St.ins p s) s).Full := by
  intro l
  induction l with
  | nil => exact fun s h => h
  | cons p l ih => exact fun s h => ih _ (ins_full h)
 exact this l _ .empty_

def eqE : List E → List E → Bool
 | [], [] => true
 | a :: l, b :: m => E.eqv a b && eqE l m
 | _, _ => false
def eqS : Nat → St → St → Bool
 | 0, _, _ => true
 | n + 1, .mk m ks, .mk m' ks' => eqE m m' && eqK (eqS n) ks ks'
where eqK (u : St → St → Bool) : List (E × St) → List (E × St) → Bool
 | [], [] => true
 | a :: l, b :: m => E.eqv a.1 b.1 && u a.2 b.2 && eqK u l m
 | _, _ => false
theorem eqE_alike : ∀ {l m : List E}, POk l → POk m → (eqE l m = true ↔ Alike E.cmp l m)
 | [], [], _, _ => by simp [eqE, Alike]
 | [], _ :: _, _, _ => by simp [eqE, Alike]
 | _ :: _, [], _, _ => by simp [eqE, Alike]
 | a :: l, b :: m, h1, h2 => by
  rw [eqE, Alike, Bool.and_eq_true, E.eqv_iff (h1 a (by simp)) (h2 b (by simp)), eqE_alike (fun x hx => h1 x (by simp [hx])) (fun x hx => h2 x (by simp [hx]))]
def AlikeK (u : St → St → Bool) : List (E × St) → List (E × St) → Prop
 | [], [] => True
 | a :: l, b :: m => E.cmp a.1 b.1 = 0 ∧ u a.2 b.2 = true ∧ AlikeK u l m
 | _, _ => False
theorem eqK_alike {u : St → St → Bool} : ∀ {l m : List (E × St)}, (∀ k ∈ l, k.1.Ok) → (∀ k ∈ m, k.1.Ok) → (eqS.eqK u l m = true ↔ AlikeK u l m)
 | [], [], _, _ => by simp [eqS.eqK, AlikeK]
 | [], _ :: _, _, _ => by simp [eqS.eqK, AlikeK]
 | _ :: _, [], _, _ => by simp [eqS.eqK, AlikeK]
 | a :: l, b :: m, h1, h2 => by
  rw [eqS.eqK, AlikeK, Bool.and_eq_true, Bool.and_eq_true, E.eqv_iff (h1 a (by simp)) (h2 b (by simp)), eqK_alike (fun x hx => h1 x (by simp [hx])) (fun x hx => h2 x (by simp [hx])), and_assoc]
theorem alikeK_find {u : St → St → Bool} {x : E} (hx : x.Ok) : ∀ {l m : List (E × St)}, (∀ k ∈ l, k.1.Ok) → (∀ k ∈ m, k.1.Ok) → AlikeK u l m → ∀ {a : St}, findK x l = some a → ∃ b, findK x m = some b ∧ u a b = true ∧ (∃ k ∈ l, k.2 = a) ∧ ∃ k ∈ m, k.2 = b
 | [], [], _, _, _, a, h => by cases h
 | [], _ :: _, _, _, h, _, _ => h.elim
 | _ :: _, [], _, _, h, _, _ => h.elim
 | k :: l, k' :: m, h1, h2, h, a, hf => by
  have e : E.cmp k.1 x = 0 ↔ E.cmp k'.1 x = 0 := ⟨fun e => E.ord_.eq_trans (h2 k' (by simp)) (h1 k (by simp)) hx (E.ord_.eq_turn (h1 k (by simp)) (h2 k' (by simp)) h.1) e, fun e => E.ord_.eq_trans (h1 k (by simp)) (h2 k' (by simp)) hx h.1 e⟩
  rw [findK] at hf
  by_cases h0 : E.cmp k.1 x = 0
  ·rw [if_pos h0] at hf
   cases hf
   exact ⟨k'.2, by rw [findK, if_pos (e.1 h0)], h.2.1, ⟨k, by simp, rfl⟩, ⟨k', by simp, rfl⟩⟩
  ·rw [if_neg h0] at hf
   obtain ⟨b, h3, h4, ⟨q, h5, h6⟩, ⟨q', h7, h8⟩⟩ := alikeK_find hx (fun x hx => h1 x (by simp [hx])) (fun x hx => h2 x (by simp [hx])) h.2.2 hf
   exact ⟨b, by rw [findK, if_neg fun h => h0 (e.2 h)]; exact h3, h4, ⟨q, by simp [h5], h6⟩, ⟨q', by simp [h7], h8⟩⟩
theorem alikeK_turn {u v : St → St → Bool} : ∀ {l m : List (E × St)}, (∀ k ∈ l, k.1.Ok) → (∀ k ∈ m, k.1.Ok) → (∀ a ∈ l, ∀ b ∈ m, u a.2 b.2 = true → v b.2 a.2 = true) → AlikeK u l m → AlikeK v m l
 | [], [], _, _, _, _ => trivial
 | [], _ :: _, _, _, _, h => h.elim
 | _ :: _, [], _, _, _, h => h.elim
 | k :: l, k' :: m, h1, h2, huv, h => ⟨E.ord_.eq_turn (h1 k (by simp)) (h2 k' (by simp)) h.1, huv k (by simp) k' (by simp) h.2.1, alikeK_turn (fun x hx => h1 x (by simp [hx])) (fun x hx => h2 x (by simp [hx])) (fun a ha b hb => huv a (by simp [ha]) b (by simp [hb])) h.2.2⟩
theorem alikeK_of {u : St → St → Bool} : ∀ {l m : List (E × St)}, Alike kcmp l m → (∀ (i : Nat) a b, l[i]? = some a → m[i]? = some b → u a.2 b.2 = true) → AlikeK u l m
 | [], [], _, _ => trivial
 | [], _ :: _, h, _ => h.elim
 | _ :: _, [], h, _ => h.elim
 | a :: l, b :: m, h, h' => ⟨h.1, h' 0 a b rfl rfl, alikeK_of h.2 fun i x y hx hy => h' (i + 1) x y (by simpa using hx) (by simpa using hy)⟩
theorem alike_get {α : Type} {c : α → α → Int} : ∀ {l m : List α}, Alike c l m → ∀ (i : Nat) a b, l[i]? = some a → m[i]? = some b → c a b = 0
 | [], _, _, i, a, b, h, _ => by simp at h
 | _ :: _, [], h, _, _, _, _, _ => h.elim
 | x :: l, y :: m, h, 0, a, b, h1, h2 => by simp at h1 h2; subst h1 h2; exact h.1
 | x :: l, y :: m, h, i + 1, a, b, h1, h2 => alike_get h.2 i a b (by simpa using h1) (by simpa using h2)
theorem eqS_sound : ∀ {n : Nat} {s t : St}, s.Ht n → t.Ht n → s.WF → t.WF → eqS n s t = true → ∀ {x : List E}, POk x → s.Has x → t.Has x
 | 0, _, _, hs, _, _, _, _, _, _, _ => by cases hs
 | n + 1, s, t, hs, ht, ws, wt, he, [], hx, h => absurd h (has_nil ws)
 | n + 1, .mk m ks, .mk m' ks', hs, ht, ws, wt, he, [e], hx, h => by
  have hx0 := hx e (by simp)
  rw [has_one wt]
  rw [has_one ws] at h
  rw [eqS, Bool.and_eq_true] at he
  cases ws with
  | mk h1 h2 h3 h4 h5 =>
  cases wt with
  | mk i1 i2 i3 i4 i5 =>
  exact (((eqE_alike h1 i1).1 he.1).has E.ord_ h1 i1 hx0).1 h
 | n + 1, .mk m ks, .mk m' ks', hs, ht, ws, wt, he, e :: y :: x, hx, h => by
  have hx0 := hx e (by simp)
  rw [has_cons wt hx0 (by simp)]
  rw [has_cons ws hx0 (by simp)] at h
  obtain ⟨a, ha, hax⟩ := h
  rw [eqS, Bool.and_eq_true] at he
  cases ws with
  | mk h1 h2 h3 h4 h5 =>
  cases wt with
  | mk i1 i2 i3 i4 i5 =>
  cases hs with
  | mk hs =>
  cases ht with
  | mk ht =>
  obtain ⟨b, hb, hu, ⟨k, hk, rfl⟩, ⟨k', hk', rfl⟩⟩ := alikeK_find hx0 h3 i3 ((eqK_alike h3 i3).1 he.2) ha
  exact ⟨_, hb, eqS_sound (hs k hk) (ht k' hk') (h5 k hk) (i5 k' hk') hu (fun z hz => hx z (by simp [hz])) hax⟩
theorem eqS_full : ∀ {n : Nat} {s t : St}, s.WF → t.WF → s.Full → t.Full → (∀ x, POk x → (s.Has x ↔ t.Has x)) → eqS n s t = true
 | 0, _, _, _, _, _, _, _ => rfl
 | n + 1, .mk m ks, .mk m' ks', ws, wt, fs, ft, h => by
  have key : ∀ {m m' : List E} {ks ks' : List (E × St)}, (St.mk m ks).WF → (St.mk m' ks').WF → (St.mk m ks).Full → (∀ x, POk x → ((St.mk m ks).Has x ↔ (St.mk m' ks').Has x)) → ∀ e : E × St, e.1.Ok → HasC kcmp ks e → HasC kcmp ks' e := by
   intro m m' ks ks' ws wt fs h e he hk
   obtain ⟨k, hk, hke⟩ := hk
   have ws' := ws
   have wt' := wt
   cases ws with
   | mk h1 h2 h3 h4 h5 =>
   cases wt with
   | mk i1 i2 i3 i4 i5 =>
   cases fs with
   | mk f1 f2 =>
   obtain ⟨p, hp⟩ := not_emp_has (f1 k hk)
   have hpo := paths_ok (h5 k hk) p hp
   have h6 : (St.mk m ks).Has (e.1 :: p) := (has_cons ws' he hpo.2).2 ⟨k.2, findK_of he h3 h4 hk hke, p, hp, wcmp_self hpo.1⟩
   have hxo : POk (e.1 :: p) := fun z hz => by
    rcases List.mem_cons.1 hz with rfl | hz
    ·exact he
    ·exact hpo.1 z hz
   obtain ⟨t, ht, -⟩ := (has_cons wt' he hpo.2).1 ((h _ hxo).1 h6)
   obtain ⟨k', hk', hke', -⟩ := findK_mem ht
   exact ⟨k', hk', hke'⟩
  have hk1 := key ws wt fs h
  have hk2 := key wt ws ft fun x hx => (h x hx).symm
  have ws' := ws
  have wt' := wt
  cases ws with
  | mk h1 h2 h3 h4 h5 =>
  cases wt with
  | mk i1 i2 i3 i4 i5 =>
  cases fs with
  | mk f1 f2 =>
  cases ft with
  | mk g1 g2 =>
  rw [eqS, Bool.and_eq_true, eqE_alike h1 i1, eqK_alike h3 i3]
  refine ⟨alike_of E.ord_ h1 i1 h2 i2 fun e he => ?_, ?_⟩
  ·have := h [e] (fun z hz => by rw [List.mem_singleton.1 hz]; exact he)
   rw [has_one ws', has_one wt'] at this
   exact this
  ·have hal := alike_of kcmp_ord h3 i3 h4 i4 fun e he => ⟨hk1 e he, hk2 e he⟩
   refine alikeK_of hal fun i a b ha hb => ?_
   have hab := alike_get hal i a b ha hb
   have ha' := List.mem_of_getElem? ha
   have hb' := List.mem_of_getElem? hb
   refine eqS_full (h5 a ha') (i5 b hb') (f2 a ha') (g2 b hb') fun x hx => ?_
   by_cases hx0 : x = []
   ·subst hx0
    exact ⟨fun h => absurd h (has_nil (h5 a ha')), fun h => absurd h (has_nil (i5 b hb'))⟩
   have hxo : POk (a.1 :: x) := fun z hz => by
    rcases List.mem_cons.1 hz with rfl | hz
    ·exact h3 a ha'
    ·exact hx z hz
   have h9 := h (a.1 :: x) hxo
   rw [has_cons ws' (h3 a ha') hx0, has_cons wt' (h3 a ha') hx0] at h9
   have e1 : findK a.1 (St.mk m ks).kids = some a.2 := findK_of (h3 a ha') h3 h4 ha' (E.cmp_self (h3 a ha'))
   have e2 : findK a.1 (St.mk m' ks').kids = some b.2 := findK_of (h3 a ha') i3 i4 hb' (E.ord_.eq_turn (h3 a ha') (i3 b hb') hab)
   rw [e1, e2] at h9
   simpa using h9
theorem eqS_sym : ∀ {n : Nat} {s t : St}, s.WF → t.WF → eqS n s t = true → eqS n t s = true
 | 0, _, _, _, _, _ => rfl
 | n + 1, .mk m ks, .mk m' ks', ws, wt, h => by
  cases ws with
  | mk h1 h2 h3 h4 h5 =>
  cases wt with
  | mk i1 i2 i3 i4 i5 =>
  rw [eqS, Bool.and_eq_true, eqE_alike h1 i1, eqK_alike h3 i3] at h
  rw [eqS, Bool.and_eq_true, eqE_alike i1 h1, eqK_alike i3 h3]
  refine ⟨alike_of E.ord_ i1 h1 i2 h2 fun e he => (h.1.has E.ord_ h1 i1 he).symm, alikeK_turn h3 i3 (fun a ha b hb hu => eqS_sym (h5 a ha) (i5 b hb) hu) h.2⟩
theorem eqS_iff {n : Nat} {s t : St} (hs : s.Ht n) (ht : t.Ht n) (ws : s.WF) (wt : t.WF) (fs : s.Full) (ft : t.Full) : eqS n s t = true ↔ ∀ x, POk x → (s.Has x ↔ t.Has x) :=
 ⟨fun h x hx => ⟨eqS_sound hs ht ws wt h hx, eqS_sound ht hs wt ws (eqS_sym ws wt h) hx⟩, eqS_full ws wt fs ft⟩

end Go.Proofs.YtbicoknghdgahaaGreat

namespace Go.Proofs.YtbicoknghdgahaaGreat

theorem setP_ht_of {l : List (List E)} {n : Nat} (h : ∀ p ∈ l, p.length ≤ n) (hn : 0 < n) : (setP l).Ht n := by
 obtain ⟨k, rfl⟩ : ∃ k, n = k + 1 := ⟨n - 1, by omega⟩
 exact setP_ht h
theorem eqS_lists {n : Nat} {a b : List (List E)} (ha : ∀ p ∈ a, POk p) (hb : ∀ p ∈ b, POk p) (h1 : (setP a).Ht n) (h2 : (setP b).Ht n) : eqS n (setP a) (setP b) = true ↔ ∀ x, POk x → x ≠ [] → (HasC wcmp a x ↔ HasC wcmp b x) := by
 rw [eqS_iff h1 h2 (setP_wf ha) (setP_wf hb) (setP_full a) (setP_full b)]
 constructor
 ·intro h x hx hx0
  have := h x hx
  rwa [has_setP ha hx hx0, has_setP hb hx hx0] at this
 ·intro h x hx
  by_cases hx0 : x = []
  ·subst hx0
   exact ⟨fun h => absurd h (has_nil (setP_wf ha)), fun h => absurd h (has_nil (setP_wf hb))⟩
  ·rw [has_setP ha hx hx0, has_setP hb hx hx0]
   exact h x hx hx0
end Go.Proofs.YtbicoknghdgahaaGreat
