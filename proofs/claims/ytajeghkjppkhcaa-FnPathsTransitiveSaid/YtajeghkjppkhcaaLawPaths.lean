/-
  The law FnPathsTransitive, of every three paths: it answers true and leaves what stood. No condition.
-/
import Derived.Test.YtajeghkjppkhcaaPathCmp
import Derived.Test.YtajeghkjppkhcaaPathOk
import Derived.Test.YtajeghkjppkhcaaCmpBd
set_option linter.unusedVariables false
set_option linter.unusedSimpArgs false
namespace Go.Proofs.Ytajeghkjppkhcaa
open Go.RowKit
attribute [local go_sem] run_store_float

set_option maxRecDepth 100000 in
set_option maxHeartbeats 8000000 in
theorem pathsLaw {l m n : List REl} {A B C : Option Addr} {c d e : Nat} {w : World} (h : PathAt (Old w) w l A c) (h' : PathAt (Old w) w m B d) (h'' : PathAt (Old w) w n C e) :
    Calls Try.prog 3 #[.slice A l.length c, .slice B m.length d, .slice C n.length e] w (LawPost w) := by
  have h1' : l.length * 168 ≤ 140737488351232 := h.1
  have h2' : m.length * 168 ≤ 140737488351232 := h'.1
  have h3' : n.length * 168 ≤ 140737488351232 := h''.1
  have HT1 := hide fun (W : World) (hb : Below w.heap.size w W) => tame_calls (h.at_ hb)
  have HT2 := hide fun (W : World) (hb : Below w.heap.size w W) => tame_calls (h'.at_ hb)
  have HT3 := hide fun (W : World) (hb : Below w.heap.size w W) => tame_calls (h''.at_ hb)
  have HC12 := hide fun (W : World) (hb : Below w.heap.size w W) => implComparePaths_calls (h.at_ hb) (h'.at_ hb)
  have HC21 := hide fun (W : World) (hb : Below w.heap.size w W) => implComparePaths_calls (h'.at_ hb) (h.at_ hb)
  have HC23 := hide fun (W : World) (hb : Below w.heap.size w W) => implComparePaths_calls (h'.at_ hb) (h''.at_ hb)
  have HC13 := hide fun (W : World) (hb : Below w.heap.size w W) => implComparePaths_calls (h.at_ hb) (h''.at_ hb)
  have HE12 := hide fun (W : World) (hb : Below w.heap.size w W) => implEqualPaths_calls (h.at_ hb) (h'.at_ hb)
  have HE22 := hide fun (W : World) (hb : Below w.heap.size w W) => implEqualPaths_calls (h'.at_ hb) (h'.at_ hb)
  clear h h' h''
  have b12 := bd_pcmp (pel l) (pel m)
  have b23 := bd_pcmp (pel m) (pel n)
  have b13 := bd_pcmp (pel l) (pel n)
  have htr : POk (pel l) → POk (pel m) → POk (pel n) → Tr (pcmp (pel l) (pel m)) (pcmp (pel m) (pel n)) (pcmp (pel l) (pel n)) := fun a b c => pcmp_tr a b c
  have htu : POk (pel l) → POk (pel m) → pcmp (pel m) (pel l) = - pcmp (pel l) (pel m) := fun a b => pcmp_turn a b
  have heq : POk (pel l) → POk (pel m) → (peqv (pel l) (pel m) = true ↔ pcmp (pel l) (pel m) = 0) := fun a b => peqv_iff a b
  have hes : POk (pel m) → peqv (pel m) (pel m) = true := fun a => (peqv_iff a a).2 (pcmp_self a)
  generalize pcmp (pel l) (pel m) = x at *
  generalize pcmp (pel m) (pel l) = x' at *
  generalize pcmp (pel m) (pel n) = y at *
  generalize pcmp (pel l) (pel n) = z at *
  generalize peqv (pel l) (pel m) = u at *
  generalize peqv (pel m) (pel m) = v at *
  generalize POk (pel l) = P1 at *
  generalize POk (pel m) = P2 at *
  generalize POk (pel n) = P3 at *
  generalize l.length = ln at *
  generalize m.length = mn at *
  generalize n.length = nn at *
  obtain ⟨b1, b2⟩ := b12
  obtain ⟨b3, b4⟩ := b23
  obtain ⟨b5, b6⟩ := b13
  have Hpl := hide (And.intro htr (And.intro htu (And.intro heq hes)))
  clear htr htu heq hes
  by_cases g1 : 2147483647 < ln
  · have gi1 : (2147483647 : Int) < (ln : Int) := by omega
    go_enter Try.func3, Try.ntmps3
    go_wp2
    go_ret
    exact ⟨rfl, Below.refl _ _⟩
  have gi1 : ¬ (2147483647 : Int) < (ln : Int) := by omega
  by_cases g2 : 2147483647 < mn
  · have gi2 : (2147483647 : Int) < (mn : Int) := by omega
    go_enter Try.func3, Try.ntmps3
    go_wp2
    go_ret
    exact ⟨rfl, Below.refl _ _⟩
  have gi2 : ¬ (2147483647 : Int) < (mn : Int) := by omega
  by_cases g3 : 2147483647 < nn
  · have gi3 : (2147483647 : Int) < (nn : Int) := by omega
    go_enter Try.func3, Try.ntmps3
    go_wp2
    go_ret
    exact ⟨rfl, Below.refl _ _⟩
  have gi3 : ¬ (2147483647 : Int) < (nn : Int) := by omega
  clear g1 g2 g3
  go_enter Try.func3, Try.ntmps3
  have hb : Below w.heap.size w w := Below.refl _ _
  go_wp2_with fail
  refine (HT1.out w hb).mono ?_
  rintro e1 w1 ⟨t, rfl, ho1, hb1⟩
  replace hb := hb.trans (hb1.mono hb.size)
  have Ho1 := hide ho1
  have Hb := hide hb
  clear hb1 ho1 hb
  cases t
  · go_wp2
    go_ret
    exact ⟨rfl, Hb.out⟩
  have hb := Hb.out
  clear Hb
  go_wp2_with fail
  refine (HT2.out w1 hb).mono ?_
  rintro e2 w2 ⟨t, rfl, ho2, hb2⟩
  replace hb := hb.trans (hb2.mono hb.size)
  have Ho2 := hide ho2
  have Hb := hide hb
  clear hb2 ho2 hb
  cases t
  · go_wp2
    go_ret
    exact ⟨rfl, Hb.out⟩
  have hb := Hb.out
  clear Hb
  go_wp2_with fail
  refine (HT3.out w2 hb).mono ?_
  rintro e3 w3 ⟨t, rfl, ho3, hb3⟩
  replace hb := hb.trans (hb3.mono hb.size)
  have Ho3 := hide ho3
  have Hb := hide hb
  clear hb3 ho3 hb
  cases t
  · go_wp2
    go_ret
    exact ⟨rfl, Hb.out⟩
  have hb := Hb.out
  clear Hb
  have hok1 : P1 := Ho1.out (by first | trivial | rfl)
  have hok2 : P2 := Ho2.out (by first | trivial | rfl)
  have hok3 : P3 := Ho3.out (by first | trivial | rfl)
  have htu := Hpl.out.2.1 hok1 hok2
  have htr := Hpl.out.1 hok1 hok2 hok3
  have heq := Hpl.out.2.2.1 hok1 hok2
  have hes := Hpl.out.2.2.2 hok2
  subst htu hes
  have e0 : IntKind.i64.wrap (- -x) = x := by rw [IntWalk.i64_in _ (by omega)]; omega
  have hu : u = decide (x = 0) := by
    by_cases hx : x = 0
    · rw [decide_eq_true hx]; exact heq.2 hx
    · rw [decide_eq_false hx]
      cases u
      · rfl
      · exact absurd (heq.1 rfl) hx
  have Htr := hide (And.intro htr heq)
  clear hok1 hok2 hok3 htr heq Ho1 Ho2 Ho3 Hpl HT1 HT2 HT3
  go_wp2_with fail
  refine (HC12.out w3 hb).mono ?_
  rintro e w4 ⟨rfl, hb4⟩
  replace hb := hb.trans (hb4.mono hb.size)
  clear hb4
  go_wp2_with fail
  refine (HC23.out w4 hb).mono ?_
  rintro e w5 ⟨rfl, hb5⟩
  replace hb := hb.trans (hb5.mono hb.size)
  clear hb5
  go_wp2_with fail
  refine (HC13.out w5 hb).mono ?_
  rintro e w6 ⟨rfl, hb6⟩
  replace hb := hb.trans (hb6.mono hb.size)
  clear hb6
  go_wp2_with fail
  refine (HC21.out w6 hb).mono ?_
  rintro e w7 ⟨rfl, hb7⟩
  replace hb := hb.trans (hb7.mono hb.size)
  clear hb7
  have hE12 := HE12.out w7 hb
  rw [hu] at hE12
  have HE := hide hE12
  clear hE12 HE12
  obtain ⟨u', hu'⟩ : ∃ u', decide (x = 0) = u' := ⟨_, rfl⟩
  rw [hu'] at HE hu
  have Hu := hide hu'
  clear hu hu'
  go_wp2_with fail
  refine HE.out.mono ?_
  rintro e w8 ⟨rfl, hb8⟩
  replace hb := hb.trans (hb8.mono hb.size)
  clear hb8
  by_cases hx : x = 0
  · have hu1 : u' = true := by rw [← Hu.out]; exact decide_eq_true hx
    subst hu1
    subst hx
    go_wp2_with fail
    refine (HE22.out w8 hb).mono ?_
    rintro e w9 ⟨rfl, hb9⟩
    replace hb := hb.trans (hb9.mono hb.size)
    clear hb9
    have Hb := hide hb
    clear hb
    have hfin := Htr.out.1
    unfold Tr at hfin
    go_wp2
    all_goals
      go_ret
      first
        | exact ⟨rfl, Hb.out⟩
        | (have hA := hfin.2 (Int.le_refl _)
           have hB := hfin.1 trivial
           refine ⟨?_, Hb.out⟩
           by_cases hy : y = 0
           · have hz := hB hy
             subst hy hz
             first | rfl | (exfalso; omega)
           · exfalso; omega)
  · have hu1 : u' = false := by rw [← Hu.out]; exact decide_eq_false hx
    subst hu1
    have hxb : (x == 0) = false := by simpa using hx
    go_wp2_with fail
    refine (HE22.out w8 hb).mono ?_
    rintro e w9 ⟨rfl, hb9⟩
    replace hb := hb.trans (hb9.mono hb.size)
    clear hb9
    have Hb := hide hb
    clear hb
    have hfin := Htr.out.1
    unfold Tr at hfin
    go_wp2
    all_goals
      go_ret
      first
        | exact ⟨rfl, Hb.out⟩

end Go.Proofs.Ytajeghkjppkhcaa
