/-
  The law FnSetInOrder, of every list of paths: it answers true and leaves what stood. No condition.
-/
import Derived.Test.YtajeghkjppkhcaaGreatIterA
import Derived.Test.YtajeghkjppkhcaaGreatSpecWalk2
import Derived.Test.YtajeghkjppkhcaaGreatPathOk
set_option linter.unusedVariables false
set_option linter.unusedSimpArgs false
namespace Go.Proofs.YtajeghkjppkhcaaGreat
open Go.RowKit
attribute [local go_sem] run_store_float

theorem setP_pws {ls : List (List REl)} : ∀ p ∈ (setP (pels ls)).paths, PWS p := paths_all (setP_all fun p hp => pels_pws hp)
theorem specS_pws {ls : List (List REl)} (h : ∀ p ∈ pels ls, POk p) : ∀ p ∈ specS (pels ls), PWS p := fun p hp => pels_pws (specS_mem h hp).1
/-- what the package lists and what the reference lists are alike -/
theorem made_alike {ls : List (List REl)} (h : ∀ p ∈ pels ls, POk p) : Alike wcmp (setP (pels ls)).paths (specS (pels ls)) := by
  have h1 := specS_ok h
  refine alike_of wcmp_ord (paths_pok (setP_wf h)) h1.1 (paths_sorted (setP_wf h)) h1.2.1 fun x hx => ?_
  rw [specS_has h hx]
  by_cases hx0 : x = []
  · subst hx0
    constructor
    · exact fun h2 => absurd h2 (has_nil (setP_wf h))
    · rintro ⟨p, hp, hp0, e⟩
      exact absurd (List.eq_nil_of_length_eq_zero (wcmp_len e)) hp0
  · rw [show HasC wcmp (setP (pels ls)).paths x ↔ _ from has_setP h hx hx0]
    constructor
    · rintro ⟨p, hp, e⟩
      exact ⟨p, hp, fun e0 => hx0 (by subst e0; exact List.eq_nil_of_length_eq_zero (wcmp_len e).symm), e⟩
    · rintro ⟨p, hp, -, e⟩
      exact ⟨p, hp, e⟩

set_option maxRecDepth 100000 in
set_option maxHeartbeats 4000000 in
theorem setInOrderLaw {ls : List (List REl)} {A : Option Addr} {c : Nat} {w : World} (h : PathsAt (Old w) w ls A c) :
    Calls Tryz.prog 5 #[.slice A ls.length c] w (LawPost w) := by
  have h1' : ls.length * 24 ≤ 140737488351232 := h.1
  have HT := hide (orderlyPaths_calls h)
  have HE := hide fun (hok : ∀ l ∈ ls, POk (pel l)) (hn : ls.length ≤ N38) (W : World) (hb : Below w.heap.size w W) => makeSet_calls (h.at_ hb) (fun p hp => by obtain ⟨l, hl, rfl⟩ := List.mem_map.1 hp; exact hok l hl) hn
  have HS := hide fun (hok : ∀ l ∈ ls, POk (pel l)) (W : World) (hb : Below w.heap.size w W) => setOf_calls (h.at_ hb) (fun p hp => by obtain ⟨l, hl, rfl⟩ := List.mem_map.1 hp; exact hok l hl)
  have hrs : (∀ l ∈ ls, POk (pel l)) → peqvs (pelsP ((setP (pels ls)).paths.map (List.map E.toREl))) (pelsP ((specS (pels ls)).map (List.map E.toREl))) = true := fun hok => by
    have hok' : ∀ p ∈ pels ls, POk p := fun p hp => by obtain ⟨l, hl, rfl⟩ := List.mem_map.1 hp; exact hok l hl
    rw [pelsP_back setP_pws, pelsP_back (specS_pws hok')]
    exact (peqvs_alike (paths_pok (setP_wf hok')) (specS_ok hok').1).2 (made_alike hok')
  have Hrs := hide hrs
  clear h hrs
  generalize (setP (pels ls)).paths.map (List.map E.toREl) = rs at *
  generalize (specS (pels ls)).map (List.map E.toREl) = ss at *
  generalize (∀ l ∈ ls, POk (pel l)) = P at *
  generalize ls.length = n at *
  by_cases hbig : 2147483647 < n
  · have gi1 : (2147483647 : Int) < (n : Int) := by omega
    go_enter Tryz.func5, Tryz.ntmps5
    go_wp2
    go_ret
    exact ⟨rfl, Below.refl _ _⟩
  have gi1 : ¬ (2147483647 : Int) < (n : Int) := by omega
  have hn38 : n ≤ N38 := by unfold N38; omega
  go_enter Tryz.func5, Tryz.ntmps5
  go_wp2_with fail
  refine HT.out.mono ?_
  rintro e w1 ⟨t, rfl, ho, hb1⟩
  have Ho := hide ho
  have Hb := hide hb1
  clear ho hb1
  cases t
  · go_wp2
    go_ret
    exact ⟨rfl, Hb.out⟩
  have hok : P := Ho.out (by first | trivial | rfl)
  have HE1 := hide (HE.out hok hn38)
  have HS1 := hide (HS.out hok)
  have Hr1 := hide (Hrs.out hok)
  clear hok Ho HE HS HT Hrs
  go_wp2_with fail
  refine (HE1.out w1 Hb.out).mono ?_
  rintro e w2 ⟨A1, c1, rfl, hp1, hb2⟩
  have Hp1 := hide (And.intro (hp1.mono (G := Old w2) fun b hb => hb.2) (Hb.out.trans (hb2.mono Hb.out.size)))
  clear hp1 hb2
  go_wp2_with fail
  refine (HS1.out w2 Hp1.out.2).mono ?_
  rintro e w3 ⟨A2, c2, rfl, hp2, hb3⟩
  have HQ := hide (listed_calls (Hp1.out.1.at_ hb3) (hp2.mono (G := Old w3) fun b hb => hb.2))
  rw [Hr1.out] at HQ
  have H3 := hide (Hp1.out.2.trans (hb3.mono Hp1.out.2.size))
  clear hp2 hb3
  go_wp2_with fail
  refine HQ.out.mono ?_
  rintro e w4 ⟨rfl, hb4⟩
  have H4 := hide (H3.out.trans (hb4.mono H3.out.size))
  clear hb4 HQ
  go_wp2
  go_ret
  exact ⟨rfl, H4.out⟩

end Go.Proofs.YtajeghkjppkhcaaGreat
