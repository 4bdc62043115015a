/-
  spec.HasPrefix, EqualPaths, EqualElemLists; laws.sorted. Printed by genspecpath.py.
-/
import Derived.Test.YtajeghkjppkhcaaGreatElemSpA
import Derived.Test.YtajeghkjppkhcaaGreatPathCmp
set_option linter.unusedVariables false
set_option linter.unusedSimpArgs false
namespace Go.Proofs.YtajeghkjppkhcaaGreat
open Go.RowKit
attribute [local go_sem] run_store_float

/-- whether q is a beginning of p -/
def ppre (p q : List E) : Bool := peqv (p.take q.length) q
theorem ppre_long {p q : List E} (h : p.length < q.length) : ppre p q = false := peqv_len (by rw [List.length_take]; omega)
theorem ppre_same {p q : List E} (h : p.length = q.length) : ppre p q = peqv p q := by
  unfold ppre
  rw [List.take_of_length_le (by omega)]

set_option maxRecDepth 100000 in
set_option maxHeartbeats 4000000 in
theorem hasPrefix_calls {l m : List REl} {A B : Option Addr} {c d : Nat} {w : World} (h : PathAt (Old w) w l A c) (h' : PathAt (Old w) w m B d) :
    Calls Tryz.prog 101 #[.slice A l.length c, .slice B m.length d] w (EqPost (ppre (pel l) (pel m)) w) := by
  obtain ⟨h1, h2, h3, xs, h4, h5⟩ := h
  obtain ⟨h1', h2', h3', ys, h4', h5'⟩ := h'
  have hl47 : l.length * 168 ≤ 140737488351232 := h1
  have hm47 : m.length * 168 ≤ 140737488351232 := h1'
  have H7 := hide (And.intro h4 (And.intro h5 (And.intro h4' h5')))
  by_cases hlen : l.length < m.length
  · rw [ppre_long (by rw [pel_length, pel_length]; exact hlen)]
    have hli : (l.length : Int) < (m.length : Int) := by omega
    clear h1 h4 h5 h1' h4' h5'
    go_enter Tryz.func101, Tryz.ntmps101
    go_wp2
    go_ret
    exact ⟨rfl, Below.refl _ _⟩
  · have hli : ¬ (l.length : Int) < (m.length : Int) := by omega
    obtain ⟨r, hr⟩ : ∃ r, ppre (pel l) (pel m) = r := ⟨_, rfl⟩
    rw [hr]
    unfold ppre at hr
    rw [pel_length] at hr
    have Hr := hide hr
    have Hlen := hide hlen
    clear h1 h4 h5 h1' h4' h5' hr hlen h2 h2' h3 h3'
    go_enter Tryz.func101, Tryz.ntmps101
    go_wp2_with fail
    go_loopw [13] (fun s W => PQInv w ((pel l).take m.length) (pel m) s W) (fun s _ => m.length - (intOf s).toNat)
    case atStart => exact ⟨0, rfl, Nat.zero_le _, by simp, Below.refl _ _⟩
    case round =>
      obtain ⟨k, rfl, hk1, heq, hb⟩ := hrel
      have hki0 : (0 : Int) ≤ (k : Int) := Int.natCast_nonneg _
      by_cases hp : k < m.length
      · have hle := Hlen.out
        have hp1 : k < l.length := by omega
        have hpi : (k : Int) < (m.length : Int) := by omega
        have hpl : (k : Int) < (l.length : Int) := by omega
        have hrd := peqv_round heq (by rw [List.length_take, pel_length]; omega) (by rw [pel_length]; exact hp)
        have e1 : ((pel l).take m.length)[k]'(by rw [List.length_take, pel_length]; omega) = (l[k]).elem := by rw [List.getElem_take]; simp [pel]
        have e2 : (pel m)[k]'(by rw [pel_length]; exact hp) = (m[k]).elem := by simp [pel]
        rw [e1, e2] at hrd
        clear e1 e2
        have hx := H7.out.2.1.at_ hp1
        have hy := H7.out.2.2.2.at_ hp
        generalize l[k] = x at *
        generalize m[k] = y at *
        generalize hcs : (xs.drop (k * 11)).take 11 = fcs at hx
        generalize hds : (ys.drop (k * 11)).take 11 = gcs at hy
        obtain ⟨a0, a1, a2, a3, a4, a5, a6, a7, a8, a9, aa, ab, ac, ad, ae, af, ag, ah, ai, rfl⟩ := hx.form
        obtain ⟨b0, b1, b2, b3, b4, b5, b6, b7, b8, b9, ba, bb, bc, bd, be, bf, bg, bh, bi, rfl⟩ := hy.form
        obtain ⟨rb, ro, rfl, hF, hc⟩ := rown_at H7.out.1 hp1 hcs
        obtain ⟨sb, so, rfl, hG, hd⟩ := rown_at H7.out.2.2.1 hp hds
        have ec := (bcell hb).1
        have m0 := (ec _ _ hF).trans (hc 0 _ rfl)
        have m1 := (ec _ _ hF).trans (hc 1 _ rfl)
        have m2 := (ec _ _ hF).trans (hc 2 _ rfl)
        have m3 := (ec _ _ hF).trans (hc 3 _ rfl)
        have m4 := (ec _ _ hF).trans (hc 4 _ rfl)
        have m5 := (ec _ _ hF).trans (hc 5 _ rfl)
        have m6 := (ec _ _ hF).trans (hc 6 _ rfl)
        have m7 := (ec _ _ hF).trans (hc 7 _ rfl)
        have m8 := (ec _ _ hF).trans (hc 8 _ rfl)
        have m9 := (ec _ _ hF).trans (hc 9 _ rfl)
        have m10 := (ec _ _ hF).trans (hc 10 _ rfl)
        have n0 := (ec _ _ hG).trans (hd 0 _ rfl)
        have n1 := (ec _ _ hG).trans (hd 1 _ rfl)
        have n2 := (ec _ _ hG).trans (hd 2 _ rfl)
        have n3 := (ec _ _ hG).trans (hd 3 _ rfl)
        have n4 := (ec _ _ hG).trans (hd 4 _ rfl)
        have n5 := (ec _ _ hG).trans (hd 5 _ rfl)
        have n6 := (ec _ _ hG).trans (hd 6 _ rfl)
        have n7 := (ec _ _ hG).trans (hd 7 _ rfl)
        have n8 := (ec _ _ hG).trans (hd 8 _ rfl)
        have n9 := (ec _ _ hG).trans (hd 9 _ rfl)
        have n10 := (ec _ _ hG).trans (hd 10 _ rfl)
        rw [Nat.add_zero] at m0 n0
        obtain ⟨v, hv⟩ : ∃ v, E.eqv x.elem y.elem = v := ⟨_, rfl⟩
        have HC := hide fun (W : World) (hb : Below w.heap.size w W) => specEqualElems_calls x y W _ _ (hx.at_ hb) (hy.at_ hb)
        rw [hv] at HC hrd
        rw [Hr.out] at hrd
        have Hrd := hide hrd
        have Hb := hide hb
        clear hb hx hy hcs hds hc hd ec hF hG hrd heq hv hp1 hk1 hle
        go_wp2_with fail
        go_still_tail 8, (by kernel_rfl)
        change wpList _ _ _ _ _ wr.drew
        go_wp2_with fail
        refine (HC.out wr.drew (below_drew Hb.out)).mono ?_
        rintro e w1 ⟨rfl, hb1⟩
        have H1 := hide (Hb.out.trans ((below_drew' hb1).mono Hb.out.size))
        clear hb1 m0 m1 m2 m3 m4 m5 m6 m7 m8 m9 m10 n0 n1 n2 n3 n4 n5 n6 n7 n8 n9 n10
        cases v
        · have hs := Hrd.out.2 rfl
          subst hs
          clear Hrd HC
          go_wp2
          go_ret
          exact ⟨rfl, H1.out⟩
        · have hs := Hrd.out.1 rfl
          have Hs := hide (Hr.out.trans hs)
          clear hs Hrd HC
          go_wp2_with fail
          exact ⟨⟨k + 1, by go_num, by rw [List.length_take, pel_length]; have := Hlen.out; omega, Hs.out, H1.out⟩, by simp [intOf]; omega⟩
      · have hpi : ¬ (k : Int) < (m.length : Int) := by omega
        have hr1 : r = true := by
          have e1 : ((pel l).take m.length).drop k = [] := List.drop_eq_nil_of_le (by rw [List.length_take]; omega)
          have e2 : (pel m).drop k = [] := List.drop_eq_nil_of_le (by rw [pel_length]; omega)
          rw [Hr.out, e1, e2] at heq
          exact heq
        subst hr1
        have Hb := hide hb
        clear hb heq hk1
        go_wp2
        go_ret
        exact ⟨rfl, Hb.out⟩

set_option maxRecDepth 100000 in
theorem specEqualPaths_calls {l m : List REl} {A B : Option Addr} {c d : Nat} {w : World} (h : PathAt (Old w) w l A c) (h' : PathAt (Old w) w m B d) :
    Calls Tryz.prog 55 #[.slice A l.length c, .slice B m.length d] w (EqPost (peqv (pel l) (pel m)) w) := by
  have hl47 : l.length * 168 ≤ 140737488351232 := h.1
  have hm47 : m.length * 168 ≤ 140737488351232 := h'.1
  by_cases hlen : l.length = m.length
  · have H := hide (hasPrefix_calls h h')
    rw [ppre_same (by rw [pel_length, pel_length]; exact hlen)] at H
    generalize peqv (pel l) (pel m) = r at *
    generalize l.length = n at *
    subst hlen
    clear h h'
    go_enter Tryz.func55, Tryz.ntmps55
    go_wp2_with fail
    refine H.out.mono ?_
    rintro e w1 ⟨rfl, hb1⟩
    have Hb := hide hb1
    clear hb1
    go_wp2
    go_ret
    exact ⟨rfl, Hb.out⟩
  · rw [peqv_len (by rw [pel_length, pel_length]; exact hlen)]
    have hli : ¬ (l.length : Int) = (m.length : Int) := by omega
    have hlb : ((l.length : Int) == (m.length : Int)) = false := by simpa using hli
    clear h h'
    go_enter Tryz.func55, Tryz.ntmps55
    go_wp2
    go_ret
    exact ⟨rfl, Below.refl _ _⟩

set_option maxRecDepth 100000 in
theorem equalElemLists_calls {l m : List REl} {A B : Option Addr} {c d : Nat} {w : World} (h : PathAt (Old w) w l A c) (h' : PathAt (Old w) w m B d) :
    Calls Tryz.prog 16 #[.slice A l.length c, .slice B m.length d] w (EqPost (peqv (pel l) (pel m)) w) := by
  have H := hide (specEqualPaths_calls h h')
  generalize peqv (pel l) (pel m) = r at *
  clear h h'
  go_enter Tryz.func16, Tryz.ntmps16
  go_wp2_with fail
  refine H.out.mono ?_
  rintro e w1 ⟨rfl, hb1⟩
  have Hb := hide hb1
  clear hb1
  go_wp2
  go_ret
  exact ⟨rfl, Hb.out⟩

/-- at the head of a round of laws.sorted -/
def SoInv (w : World) (n : Nat) (s : Value) (W : World) : Prop := ∃ k : Nat, s = .int .i64 ((k : Int) + 1) ∧ k ≤ n ∧ Below w.heap.size w W
set_option maxRecDepth 100000 in
set_option maxHeartbeats 4000000 in
theorem sorted_calls {l : List REl} {A : Option Addr} {c : Nat} {w : World} (h : PathAt (Old w) w l A c) (hs : SortC E.cmp (pel l)) :
    Calls Tryz.prog 18 #[.slice A l.length c] w (EqPost true w) := by
  obtain ⟨h1, h2, h3, xs, h4, h5⟩ := h
  have hl47 : l.length * 168 ≤ 140737488351232 := h1
  have H7 := hide (And.intro h4 h5)
  have Hs := hide hs
  clear h1 h4 h5 hs
  go_enter Tryz.func18, Tryz.ntmps18
  go_wp2_with fail
  go_loopw [3] (fun s W => SoInv w l.length s W) (fun s _ => l.length + 1 - (intOf s).toNat)
  case atStart => exact ⟨0, rfl, Nat.zero_le _, Below.refl _ _⟩
  case round =>
    obtain ⟨j, rfl, hk, hb⟩ := hrel
    have hki0 : (0 : Int) ≤ (j : Int) := Int.natCast_nonneg _
    have hki3 : (0 : Int) ≤ (j : Int) + 1 := by omega
    by_cases hlt : j + 1 < l.length
    · have hj : j < l.length := by omega
      have hki1 : (j : Int) + 1 < (l.length : Int) := by omega
      have hki2 : (j : Int) < (l.length : Int) := by omega
      have hlt' : E.cmp (l[j]).elem (l[j + 1]).elem < 0 := by
        have := List.pairwise_iff_getElem.1 Hs.out j (j + 1) (by rw [pel_length]; exact hj) (by rw [pel_length]; exact hlt) (by omega)
        simpa [pel] using this
      have hx := H7.out.2.at_ hj
      have hy := H7.out.2.at_ hlt
      generalize l[j] = x at *
      generalize l[j + 1] = y at *
      generalize hcs : (xs.drop (j * 11)).take 11 = fcs at hx
      generalize hds : (xs.drop ((j + 1) * 11)).take 11 = gcs at hy
      obtain ⟨a0, a1, a2, a3, a4, a5, a6, a7, a8, a9, aa, ab, ac, ad, ae, af, ag, ah, ai, rfl⟩ := hx.form
      obtain ⟨b0, b1, b2, b3, b4, b5, b6, b7, b8, b9, ba, bb, bc, bd, be, bf, bg, bh, bi, rfl⟩ := hy.form
      obtain ⟨rb, ro, rfl, hF, hc⟩ := rown_at H7.out.1 hj hcs
      obtain ⟨sb, so, hre, hG, hd⟩ := rown_at H7.out.1 hlt hds
      cases hre
      have ec := (bcell hb).1
      have m0 := (ec _ _ hF).trans (hc 0 _ rfl)
      have m1 := (ec _ _ hF).trans (hc 1 _ rfl)
      have m2 := (ec _ _ hF).trans (hc 2 _ rfl)
      have m3 := (ec _ _ hF).trans (hc 3 _ rfl)
      have m4 := (ec _ _ hF).trans (hc 4 _ rfl)
      have m5 := (ec _ _ hF).trans (hc 5 _ rfl)
      have m6 := (ec _ _ hF).trans (hc 6 _ rfl)
      have m7 := (ec _ _ hF).trans (hc 7 _ rfl)
      have m8 := (ec _ _ hF).trans (hc 8 _ rfl)
      have m9 := (ec _ _ hF).trans (hc 9 _ rfl)
      have m10 := (ec _ _ hF).trans (hc 10 _ rfl)
      have n0 := (ec _ _ hG).trans (hd 0 _ rfl)
      have n1 := (ec _ _ hG).trans (hd 1 _ rfl)
      have n2 := (ec _ _ hG).trans (hd 2 _ rfl)
      have n3 := (ec _ _ hG).trans (hd 3 _ rfl)
      have n4 := (ec _ _ hG).trans (hd 4 _ rfl)
      have n5 := (ec _ _ hG).trans (hd 5 _ rfl)
      have n6 := (ec _ _ hG).trans (hd 6 _ rfl)
      have n7 := (ec _ _ hG).trans (hd 7 _ rfl)
      have n8 := (ec _ _ hG).trans (hd 8 _ rfl)
      have n9 := (ec _ _ hG).trans (hd 9 _ rfl)
      have n10 := (ec _ _ hG).trans (hd 10 _ rfl)
      rw [Nat.add_zero] at m0 n0
      obtain ⟨v, hv⟩ : ∃ v, E.cmp x.elem y.elem = v := ⟨_, rfl⟩
      have HC := hide fun (W : World) (hb : Below w.heap.size w W) => specCompareElems_calls x y W _ _ (hx.at_ hb) (hy.at_ hb)
      rw [hv] at HC hlt'
      have hvn : ¬ 0 ≤ v := by omega
      have Hb := hide hb
      have e1 : IntKind.i64.wrap ((j : Int) + 1 - 1) = (j : Int) := by rw [IntWalk.i64_in _ (by omega)]; omega
      have e2 : ((j : Int) + 1).toNat = j + 1 := by omega
      have e3 : IntKind.i64.wrap (j : Int) = (j : Int) := IntWalk.i64_in _ (by omega)
      clear hb hx hy hcs hds hc hd ec hF hG hv hlt' hj
      go_wp2_with fail
      go_still_tail 9, (by kernel_rfl)
      change wpList _ _ _ _ _ wr.drew
      go_wp2_with fail
      refine (HC.out wr.drew (below_drew Hb.out)).mono ?_
      rintro e w1 ⟨rfl, hb1⟩
      have H1 := hide (Hb.out.trans ((below_drew' hb1).mono Hb.out.size))
      clear hb1 m0 m1 m2 m3 m4 m5 m6 m7 m8 m9 m10 n0 n1 n2 n3 n4 n5 n6 n7 n8 n9 n10 e1 e2 e3
      go_wp2_with fail
      exact ⟨⟨j + 1, by go_num, by omega, H1.out⟩, by simp [intOf]; omega⟩
    · have hki1 : ¬ (j : Int) + 1 < (l.length : Int) := by omega
      have Hb := hide hb
      clear hb hk
      go_wp2
      go_ret
      exact ⟨rfl, Hb.out⟩

end Go.Proofs.YtajeghkjppkhcaaGreat
