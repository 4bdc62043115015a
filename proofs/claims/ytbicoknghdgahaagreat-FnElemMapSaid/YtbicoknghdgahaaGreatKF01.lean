/- Parts: SpecEqS, Pels. -/
import Derived.Test.YtbicoknghdgahaaGreatKD07
set_option linter.unusedVariables false
set_option linter.unusedSimpArgs false
namespace Go.Proofs.YtbicoknghdgahaaGreat
open Go.RowKit
attribute [local go_sem] run_store_float

theorem specS_pws' {ls : List (List REl)} (h : ∀ p ∈ pels ls, POk p) : ∀ p ∈ specS (pels ls), PWS p := fun p hp => pels_pws (specS_mem h hp).1

set_option maxRecDepth 100000 in
theorem equalSets_calls {l m : List (List REl)} {A B : Option Addr} {c d : Nat} {w : World} (h : PathsAt (Old w) w l A c) (h' : PathsAt (Old w) w m B d) (hl : ∀ p ∈ pels l, POk p) (hm : ∀ p ∈ pels m, POk p) :
  Calls Tryz.prog 79 #[.slice A l.length c, .slice B m.length d] w (EqPost (peqvs (specS (pels l)) (specS (pels m))) w) := by
 have H1 := hide fun (W : World) (hb : Below w.heap.size w W) => setOf_calls (h.at_ hb) hl
 have H2 := hide fun (W : World) (hb : Below w.heap.size w W) => setOf_calls (h'.at_ hb) hm
 have hp1 := pelsP_back (specS_pws' hl)
 have hp2 := pelsP_back (specS_pws' hm)
 have Hp := hide (And.intro hp1 hp2)
 clear h h' hl hm hp1 hp2
 generalize specS (pels l) = ps at *
 generalize specS (pels m) = qs at *
 generalize ps.map (List.map E.toREl) = rs at *
 generalize qs.map (List.map E.toREl) = ss at *
 generalize l.length = n at *
 generalize m.length = k at *
 go_enter Tryz.func79, Tryz.ntmps79
 go_wp2_with fail
 refine (H1.out w (Below.refl _ _)).mono ?_
 rintro e w1 ⟨A1, c1, rfl, hp1, hb1⟩
 have Hq1 := hide (And.intro (hp1.mono (G := Old w1) fun b hb => hb.2) hb1)
 clear hp1 hb1
 go_wp2_with fail
 refine (H2.out w1 Hq1.out.2).mono ?_
 rintro e w2 ⟨A2, c2, rfl, hp2, hb2⟩
 have HQ := hide (listed_calls (Hq1.out.1.at_ hb2) (hp2.mono (G := Old w2) fun b hb => hb.2))
 rw [Hp.out.1, Hp.out.2] at HQ
 have H3 := hide (Hq1.out.2.trans (hb2.mono Hq1.out.2.size))
 clear hp2 hb2 Hp
 generalize peqvs ps qs = r at *
 go_wp2_with fail
 refine HQ.out.mono ?_
 rintro e w3 ⟨rfl, hb3⟩
 have H4 := hide (H3.out.trans (hb3.mono H3.out.size))
 clear hb3 HQ
 go_wp2
 go_ret
 exact ⟨rfl, H4.out⟩

set_option maxRecDepth 100000 in
theorem lists_calls {l m : List (List REl)} {A B : Option Addr} {c d : Nat} {w : World} (h : PathsAt (Old w) w l A c) (h' : PathsAt (Old w) w m B d) (hl : ∀ p ∈ pels l, POk p) (hm : ∀ p ∈ pels m, POk p) (hlen : m.length = l.length) :
  Calls Tryz.prog 25 #[.slice A l.length c, .slice B m.length d] w (EqPost (peqvs (specS (pels l)) (specS (pels m))) w) := by
 have H1 := hide (equalSets_calls h h' hl hm)
 rw [hlen] at H1 ⊢
 have heq : ((l.length : Int) == (l.length : Int)) = true := by simp
 clear h h' hl hm hlen
 generalize peqvs (specS (pels l)) (specS (pels m)) = r at *
 generalize l.length = n at *
 go_enter Tryz.func25, Tryz.ntmps25
 go_wp2_with fail
 refine H1.out.mono ?_
 rintro e w1 ⟨rfl, hb1⟩
 have Hb := hide hb1
 clear hb1 H1
 go_wp2
 go_ret
 exact ⟨rfl, Hb.out⟩

end Go.Proofs.YtbicoknghdgahaaGreat

namespace Go.Proofs.YtbicoknghdgahaaGreat
open Go.RowKit

theorem alike_lists {l m : List (List E)} (hl : ∀ p ∈ l, POk p) (hm : ∀ p ∈ m, POk p) (h : Alike wcmp l m) : m.length = l.length ∧ peqvs (specS l) (specS m) = true := by
 refine ⟨h.length.symm, (peqvs_alike (specS_ok hl).1 (specS_ok hm).1).2 ?_⟩
 refine alike_of wcmp_ord (specS_ok hl).1 (specS_ok hm).1 (specS_ok hl).2.1 (specS_ok hm).2.1 fun x hx => ?_
 rw [specS_has hl hx, specS_has hm hx]
 have := h.has wcmp_ord hl hm hx
 by_cases hx0 : x = []
 ·subst hx0
  constructor
  ·rintro ⟨p, hp, hp0, e⟩; exact absurd (List.eq_nil_of_length_eq_zero (wcmp_len e)) hp0
  ·rintro ⟨p, hp, hp0, e⟩; exact absurd (List.eq_nil_of_length_eq_zero (wcmp_len e)) hp0
 ·have ne : ∀ {p : List E}, wcmp p x = 0 → p ≠ [] := fun e e0 => hx0 (by subst e0; exact List.eq_nil_of_length_eq_zero (wcmp_len e).symm)
  constructor
  ·rintro ⟨p, hp, hp0, e⟩
   obtain ⟨q, hq, e2⟩ := this.1 ⟨p, hp, e⟩
   exact ⟨q, hq, ne e2, e2⟩
  ·rintro ⟨p, hp, hp0, e⟩
   obtain ⟨q, hq, e2⟩ := this.2 ⟨p, hp, e⟩
   exact ⟨q, hq, ne e2, e2⟩
end Go.Proofs.YtbicoknghdgahaaGreat
