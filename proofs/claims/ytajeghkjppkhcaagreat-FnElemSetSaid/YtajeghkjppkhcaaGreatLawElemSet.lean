/-
  The law FnElemSet, of every list of steps: it answers true and leaves what stood. No condition.
-/
import Derived.Test.YtajeghkjppkhcaaGreatSpecElemSet
import Derived.Test.YtajeghkjppkhcaaGreatPathOk
set_option linter.unusedVariables false
set_option linter.unusedSimpArgs false
namespace Go.Proofs.YtajeghkjppkhcaaGreat
open Go.RowKit
attribute [local go_sem] run_store_float

theorem tameElems_calls {l : List REl} {A : Option Addr} {c : Nat} {w : World} (h : PathAt (Old w) w l A c) :
    Calls Tryz.prog 14 #[.slice A l.length c] w (OrdPost (POk (pel l)) w) := by
  have H := hide (tame_calls h)
  generalize POk (pel l) = P at *
  generalize l.length = n at *
  clear h
  go_enter Tryz.func14, Tryz.ntmps14
  go_wp2_with fail
  refine H.out.mono ?_
  rintro e w1 ⟨b, rfl, hb, hw⟩
  have H1 := hide (And.intro hb hw)
  clear hb hw
  go_wp2
  go_ret
  exact ⟨b, rfl, H1.out.1, H1.out.2⟩

theorem set_back {l : List REl} : pel ((setE (pel l)).map E.toREl) = setE (pel l) := map_back fun e he => pel_ews (setE_mem he)

set_option maxRecDepth 100000 in
set_option maxHeartbeats 4000000 in
theorem elemSetLaw {l : List REl} {A : Option Addr} {c : Nat} {w : World} (h : PathAt (Old w) w l A c) :
    Calls Tryz.prog 3 #[.slice A l.length c] w (LawPost w) := by
  have h1' : l.length * 168 ≤ 140737488351232 := h.1
  have HT := hide (tameElems_calls h)
  have HE := hide fun (hok : POk (pel l)) (W : World) (hb : Below w.heap.size w W) => implElemSet_calls (h.at_ hb) hok
  have HS := hide fun (hok : POk (pel l)) (W : World) (hb : Below w.heap.size w W) => specElemSet_calls (h.at_ hb) hok
  have HN := hide fun (hok : POk (pel l)) (W : World) (hb : Below w.heap.size w W) => implElemSetSize_calls (h.at_ hb) hok
  have hrs : POk (pel l) → POk (pel ((setE (pel l)).map E.toREl)) ∧ SortC E.cmp (pel ((setE (pel l)).map E.toREl)) := fun hok => by
    rw [set_back]
    exact ⟨(setE_ok hok).1, (setE_ok hok).2.1⟩
  have hln : ((setE (pel l)).map E.toREl).length = (setE (pel l)).length := List.length_map _
  rw [← hln] at HN
  have Hrs := hide hrs
  clear h hrs hln
  generalize (setE (pel l)).map E.toREl = rs at *
  generalize POk (pel l) = P at *
  generalize l.length = n at *
  by_cases hbig : 2147483647 < n
  · have gi1 : (2147483647 : Int) < (n : Int) := by omega
    go_enter Tryz.func3, Tryz.ntmps3
    go_wp2
    go_ret
    exact ⟨rfl, Below.refl _ _⟩
  have gi1 : ¬ (2147483647 : Int) < (n : Int) := by omega
  go_enter Tryz.func3, Tryz.ntmps3
  go_wp2_with fail
  refine HT.out.mono ?_
  rintro e w1 ⟨t, rfl, ho, hb1⟩
  have Ho := hide ho
  have Hb := hide hb1
  clear ho hb1
  cases t
  · go_wp2
    go_ret
    exact ⟨rfl, Hb.out⟩
  have hok : P := Ho.out (by first | trivial | rfl)
  have HE1 := hide (HE.out hok)
  have HS1 := hide (HS.out hok)
  have HN1 := hide (HN.out hok)
  have Hr1 := hide (Hrs.out hok)
  clear hok Ho HE HS HN HT Hrs
  go_wp2_with fail
  refine (HE1.out w1 Hb.out).mono ?_
  rintro e w2 ⟨A1, c1, rfl, hp1, hb2⟩
  have Hp1 := hide (And.intro (hp1.mono (G := Old w2) fun b hb => hb.2) (Hb.out.trans (hb2.mono Hb.out.size)))
  clear hp1 hb2
  go_wp2_with fail
  refine (HS1.out w2 Hp1.out.2).mono ?_
  rintro e w3 ⟨A2, c2, rfl, hp2, hb3⟩
  have HQ := hide (equalElemLists_calls (Hp1.out.1.at_ hb3) (hp2.mono (G := Old w3) fun b hb => hb.2))
  rw [(peqv_iff Hr1.out.1 Hr1.out.1).2 (pcmp_self Hr1.out.1)] at HQ
  have H3 := hide (And.intro (Hp1.out.1.at_ hb3) (Hp1.out.2.trans (hb3.mono Hp1.out.2.size)))
  clear hp2 hb3
  go_wp2_with fail
  refine HQ.out.mono ?_
  rintro e w4 ⟨rfl, hb4⟩
  have HSo := hide (sorted_calls (H3.out.1.at_ hb4) Hr1.out.2)
  have H4 := hide (H3.out.2.trans (hb4.mono H3.out.2.size))
  clear hb4 HQ
  go_wp2_with fail
  refine HSo.out.mono ?_
  rintro e w5 ⟨rfl, hb5⟩
  have H5 := hide (H4.out.trans (hb5.mono H4.out.size))
  clear hb5 HSo
  go_wp2_with fail
  refine (HN1.out w5 H5.out).mono ?_
  rintro e w6 ⟨rfl, hb6⟩
  have H6 := hide (H5.out.trans (hb6.mono H5.out.size))
  clear hb6
  go_wp2_with fail
  refine (HS1.out w6 H6.out).mono ?_
  rintro e w7 ⟨A3, c3, rfl, hp3, hb7⟩
  have H7 := hide (H6.out.trans (hb7.mono H6.out.size))
  clear hp3 hb7
  go_wp2
  go_ret
  exact ⟨rfl, H7.out⟩

end Go.Proofs.YtajeghkjppkhcaaGreat
