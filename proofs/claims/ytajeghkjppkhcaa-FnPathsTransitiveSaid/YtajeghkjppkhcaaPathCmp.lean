/-
  Path.Compare, Path.Equals; impl.ComparePaths, impl.EqualPaths.
-/
import Derived.Test.YtajeghkjppkhcaaPathM
import Derived.Test.YtajeghkjppkhcaaElemCmp
import Derived.StillTailTactics
set_option linter.unusedVariables false
set_option linter.unusedSimpArgs false
namespace Go.Proofs.Ytajeghkjppkhcaa
open Go.RowKit
attribute [local go_sem] run_store_float

/-- at the head of a round of Path.Compare -/
def PCInv (w : World) (p q : List E) (s : Value) (W : World) : Prop := ∃ k : Nat, s = .int .i64 (k : Int) ∧ k ≤ p.length ∧ k ≤ q.length ∧ pcmp p q = pcmp (p.drop k) (q.drop k) ∧ Below w.heap.size w W

theorem pcmp_end {p q : List E} {k : Nat} (h : pcmp p q = pcmp (p.drop k) (q.drop k)) (h1 : k ≤ p.length) (h2 : k ≤ q.length) : (p.length ≤ k → q.length ≤ k → pcmp p q = 0) ∧ (p.length ≤ k → k < q.length → pcmp p q = -1) ∧ (k < p.length → q.length ≤ k → pcmp p q = 1) := by
  rw [h]
  refine ⟨fun a b => ?_, fun a b => ?_, fun a b => ?_⟩
  · rw [List.drop_eq_nil_of_le a, List.drop_eq_nil_of_le b]; rfl
  · rw [List.drop_eq_nil_of_le a, List.drop_eq_getElem_cons b]; rfl
  · rw [List.drop_eq_nil_of_le b, List.drop_eq_getElem_cons a]; rfl
theorem pcmp_round {p q : List E} {k : Nat} (h : pcmp p q = pcmp (p.drop k) (q.drop k)) (h1 : k < p.length) (h2 : k < q.length) : (E.cmp p[k] q[k] = 0 → pcmp p q = pcmp (p.drop (k + 1)) (q.drop (k + 1))) ∧ (¬ E.cmp p[k] q[k] = 0 → pcmp p q = E.cmp p[k] q[k]) := by
  rw [h, List.drop_eq_getElem_cons h1, List.drop_eq_getElem_cons h2, pcmp]
  exact ⟨fun e => if_pos e, fun e => if_neg e⟩

set_option maxRecDepth 100000 in
set_option maxHeartbeats 4000000 in
theorem pathCompare_calls {p q : List E} {A B : Option Addr} {c d : Nat} {w : World} (h : PPathAt (Old w) w p A c) (h' : PPathAt (Old w) w q B d) :
    Calls Try.prog 9 #[.slice A p.length c, .slice B q.length d] w (CmpPost (pcmp p q) w) := by
  obtain ⟨h1, h2, h3, xs, h4, h5⟩ := h
  obtain ⟨h1', h2', h3', ys, h4', h5'⟩ := h'
  have hp47 : p.length * 32 ≤ 140737488351232 := h1
  have hq47 : q.length * 32 ≤ 140737488351232 := h1'
  have H7 := hide (And.intro h4 (And.intro h5 (And.intro h4' h5')))
  obtain ⟨r, hr⟩ : ∃ r, pcmp p q = r := ⟨_, rfl⟩
  rw [hr]
  have Hr := hide hr
  clear h1 h4 h5 h1' h4' h5' hr
  go_enter Try.func9, Try.ntmps9
  go_wp2_with fail
  go_loopw [5] (fun s W => PCInv w p q s W) (fun s _ => p.length - (intOf s).toNat)
  case atStart => exact ⟨0, rfl, Nat.zero_le _, Nat.zero_le _, by simp, Below.refl _ _⟩
  case round =>
    obtain ⟨k, rfl, hk1, hk2, heq, hb⟩ := hrel
    have hki0 : (0 : Int) ≤ (k : Int) := Int.natCast_nonneg _
    have hend := pcmp_end heq hk1 hk2
    by_cases hp : k < p.length
    · have hpi : (k : Int) < (p.length : Int) := by omega
      have hpi' : ¬ (p.length : Int) ≤ (k : Int) := by omega
      by_cases hq : k < q.length
      · have hqi : (k : Int) < (q.length : Int) := by omega
        have hqi' : ¬ (q.length : Int) ≤ (k : Int) := by omega
        have hrd := pcmp_round heq hp hq
        have hx := H7.out.2.1.at_ hp
        have hy := H7.out.2.2.2.at_ hq
        generalize p[k] = x at *
        generalize q[k] = y at *
        generalize hcs : (xs.drop (k * 4)).take 4 = fcs at hx
        generalize hds : (ys.drop (k * 4)).take 4 = gcs at hy
        obtain ⟨p0, p1, p2, p3, rfl⟩ := hx.form
        obtain ⟨q0, q1, q2, q3, rfl⟩ := hy.form
        obtain ⟨rb, ro, rfl, hF, hc⟩ := rown_at H7.out.1 hp hcs
        obtain ⟨sb, so, rfl, hG, hd⟩ := rown_at H7.out.2.2.1 hq hds
        have ec := (bcell hb).1
        have m0 := (ec _ _ hF).trans (hc 0 _ rfl)
        have m1 := (ec _ _ hF).trans (hc 1 _ rfl)
        have m2 := (ec _ _ hF).trans (hc 2 _ rfl)
        have m3 := (ec _ _ hF).trans (hc 3 _ rfl)
        have n0 := (ec _ _ hG).trans (hd 0 _ rfl)
        have n1 := (ec _ _ hG).trans (hd 1 _ rfl)
        have n2 := (ec _ _ hG).trans (hd 2 _ rfl)
        have n3 := (ec _ _ hG).trans (hd 3 _ rfl)
        rw [Nat.add_zero] at m0 n0
        obtain ⟨v, hv⟩ : ∃ v, E.cmp x y = v := ⟨_, rfl⟩
        have HC := hide fun (W : World) (hb : Below w.heap.size w W) => peCompare_calls (hx.at_ hb) (hy.at_ hb)
        rw [hv] at HC hrd
        rw [Hr.out] at hrd
        have Hrd := hide (And.intro hrd (And.intro heq hv))
        have Hb := hide hb
        clear hb hx hy hcs hds hc hd ec hF hG hend hrd heq hv
        go_wp2_with fail
        go_still_tail 8, (by kernel_rfl)
        change wpList _ _ _ _ _ wr.drew
        go_wp2_with fail
        refine (HC.out wr.drew (below_drew Hb.out)).mono ?_
        rintro e w1 ⟨rfl, hb1⟩
        have H1 := hide (Hb.out.trans ((below_drew' hb1).mono Hb.out.size))
        clear hb1 m0 m1 m2 m3 n0 n1 n2 n3
        by_cases hv0 : v = 0
        · have hs := Hrd.out.1.1 hv0
          have Hs := hide (Hr.out.trans hs)
          clear hs Hrd HC
          subst hv0
          go_wp2_with fail
          exact ⟨⟨k + 1, by go_num, by omega, by omega, Hs.out, H1.out⟩, by simp [intOf]; omega⟩
        · have hs := Hrd.out.1.2 hv0
          subst hs
          clear Hrd HC
          go_wp2
          go_ret
          exact ⟨rfl, H1.out⟩
      · have hqi : (q.length : Int) ≤ (k : Int) := by omega
        have hr1 := hend.2.2 hp (by omega)
        rw [Hr.out] at hr1
        subst hr1
        have Hb := hide hb
        clear hb hend heq Hr
        go_wp2
        go_ret
        exact ⟨rfl, Hb.out⟩
    · have hpi : (p.length : Int) ≤ (k : Int) := by omega
      by_cases hq : k < q.length
      · have hqi : ¬ (q.length : Int) ≤ (k : Int) := by omega
        have hr1 := hend.2.1 (by omega) hq
        rw [Hr.out] at hr1
        subst hr1
        have Hb := hide hb
        clear hb hend heq Hr
        go_wp2
        go_ret
        exact ⟨rfl, Hb.out⟩
      · have hqi : (q.length : Int) ≤ (k : Int) := by omega
        have hr1 := hend.1 (by omega) (by omega)
        rw [Hr.out] at hr1
        subst hr1
        have Hb := hide hb
        clear hb hend heq Hr
        go_wp2
        go_ret
        exact ⟨rfl, Hb.out⟩

/-- at the head of a round of Path.Equals -/
def PQInv (w : World) (p q : List E) (s : Value) (W : World) : Prop := ∃ k : Nat, s = .int .i64 (k : Int) ∧ k ≤ p.length ∧ peqv p q = peqv (p.drop k) (q.drop k) ∧ Below w.heap.size w W
theorem peqv_len : ∀ {p q : List E}, p.length ≠ q.length → peqv p q = false
  | [], [], h => absurd rfl h
  | [], _ :: _, _ => rfl
  | _ :: _, [], _ => rfl
  | a :: p, b :: q, h => by rw [peqv, peqv_len (fun e => h (by simp [e])), Bool.and_false]
theorem peqv_round {p q : List E} {k : Nat} (h : peqv p q = peqv (p.drop k) (q.drop k)) (h1 : k < p.length) (h2 : k < q.length) : (E.eqv p[k] q[k] = true → peqv p q = peqv (p.drop (k + 1)) (q.drop (k + 1))) ∧ (E.eqv p[k] q[k] = false → peqv p q = false) := by
  rw [h, List.drop_eq_getElem_cons h1, List.drop_eq_getElem_cons h2, peqv]
  exact ⟨fun e => by rw [e, Bool.true_and], fun e => by rw [e, Bool.false_and]⟩

set_option maxRecDepth 100000 in
set_option maxHeartbeats 4000000 in
theorem pathEquals_calls {p q : List E} {A B : Option Addr} {c d : Nat} {w : World} (h : PPathAt (Old w) w p A c) (h' : PPathAt (Old w) w q B d) :
    Calls Try.prog 10 #[.slice A p.length c, .slice B q.length d] w (EqPost (peqv p q) w) := by
  obtain ⟨h1, h2, h3, xs, h4, h5⟩ := h
  obtain ⟨h1', h2', h3', ys, h4', h5'⟩ := h'
  have hp47 : p.length * 32 ≤ 140737488351232 := h1
  have hq47 : q.length * 32 ≤ 140737488351232 := h1'
  have H7 := hide (And.intro h4 (And.intro h5 (And.intro h4' h5')))
  by_cases hlen : p.length = q.length
  · obtain ⟨n, hn⟩ : ∃ n, p.length = n := ⟨_, rfl⟩
    have hn' : q.length = n := by omega
    obtain ⟨r, hr⟩ : ∃ r, peqv p q = r := ⟨_, rfl⟩
    rw [hr, hn, hn']
    rw [hn] at hp47
    have Hr := hide (And.intro hr (And.intro hn hn'))
    clear h1 h4 h5 h1' h4' h5' hr hn hn' hlen h2 h2' h3 h3' hq47
    go_enter Try.func10, Try.ntmps10
    go_wp2_with fail
    go_loopw [13] (fun s W => PQInv w p q s W) (fun s _ => n - (intOf s).toNat)
    case atStart => exact ⟨0, rfl, Nat.zero_le _, by simp, Below.refl _ _⟩
    case round =>
      obtain ⟨k, rfl, hk1, heq, hb⟩ := hrel
      rw [Hr.out.2.1] at hk1
      have hki0 : (0 : Int) ≤ (k : Int) := Int.natCast_nonneg _
      by_cases hp : k < n
      · have hpi : (k : Int) < (n : Int) := by omega
        have hp1 : k < p.length := by rw [Hr.out.2.1]; exact hp
        have hq1 : k < q.length := by rw [Hr.out.2.2]; exact hp
        have hrd := peqv_round heq hp1 hq1
        have hx := H7.out.2.1.at_ hp1
        have hy := H7.out.2.2.2.at_ hq1
        generalize p[k] = x at *
        generalize q[k] = y at *
        generalize hcs : (xs.drop (k * 4)).take 4 = fcs at hx
        generalize hds : (ys.drop (k * 4)).take 4 = gcs at hy
        obtain ⟨p0, p1, p2, p3, rfl⟩ := hx.form
        obtain ⟨q0, q1, q2, q3, rfl⟩ := hy.form
        obtain ⟨rb, ro, rfl, hF, hc⟩ := rown_at H7.out.1 hp1 hcs
        obtain ⟨sb, so, rfl, hG, hd⟩ := rown_at H7.out.2.2.1 hq1 hds
        have ec := (bcell hb).1
        have m0 := (ec _ _ hF).trans (hc 0 _ rfl)
        have m1 := (ec _ _ hF).trans (hc 1 _ rfl)
        have m2 := (ec _ _ hF).trans (hc 2 _ rfl)
        have m3 := (ec _ _ hF).trans (hc 3 _ rfl)
        have n0 := (ec _ _ hG).trans (hd 0 _ rfl)
        have n1 := (ec _ _ hG).trans (hd 1 _ rfl)
        have n2 := (ec _ _ hG).trans (hd 2 _ rfl)
        have n3 := (ec _ _ hG).trans (hd 3 _ rfl)
        rw [Nat.add_zero] at m0 n0
        obtain ⟨v, hv⟩ : ∃ v, E.eqv x y = v := ⟨_, rfl⟩
        have HC := hide fun (W : World) (hb : Below w.heap.size w W) => peEquals_calls (hx.at_ hb) (hy.at_ hb)
        rw [hv] at HC hrd
        rw [Hr.out.1] at hrd
        have Hrd := hide hrd
        have Hb := hide hb
        clear hb hx hy hcs hds hc hd ec hF hG hrd heq hv hp1 hq1 hk1
        go_wp2_with fail
        go_still_tail 8, (by kernel_rfl)
        change wpList _ _ _ _ _ wr.drew
        go_wp2_with fail
        refine (HC.out wr.drew (below_drew Hb.out)).mono ?_
        rintro e w1 ⟨rfl, hb1⟩
        have H1 := hide (Hb.out.trans ((below_drew' hb1).mono Hb.out.size))
        clear hb1 m0 m1 m2 m3 n0 n1 n2 n3
        cases v
        · have hs := Hrd.out.2 rfl
          subst hs
          clear Hrd HC
          go_wp2
          go_ret
          exact ⟨rfl, H1.out⟩
        · have hs := Hrd.out.1 rfl
          have Hs := hide (Hr.out.1.trans hs)
          clear hs Hrd HC
          go_wp2_with fail
          exact ⟨⟨k + 1, by go_num, by rw [Hr.out.2.1]; omega, Hs.out, H1.out⟩, by simp [intOf]; omega⟩
      · have hpi : ¬ (k : Int) < (n : Int) := by omega
        have hr1 : r = true := by
          have e1 : p.drop k = [] := List.drop_eq_nil_of_le (by rw [Hr.out.2.1]; omega)
          have e2 : q.drop k = [] := List.drop_eq_nil_of_le (by rw [Hr.out.2.2]; omega)
          rw [Hr.out.1, e1, e2] at heq
          exact heq
        subst hr1
        have Hb := hide hb
        clear hb heq hk1
        go_wp2
        go_ret
        exact ⟨rfl, Hb.out⟩
  · rw [peqv_len hlen]
    have hli : ¬ (p.length : Int) = (q.length : Int) := by omega
    have hlb : ((p.length : Int) == (q.length : Int)) = false := by simpa using hli
    have hlb2 : ((p.length : Int) != (q.length : Int)) = true := by simpa using hli
    clear h1 h4 h5 h1' h4' h5'
    go_enter Try.func10, Try.ntmps10
    go_wp2
    go_ret
    exact ⟨rfl, Below.refl _ _⟩

set_option maxRecDepth 100000 in
theorem implComparePaths_calls {l m : List REl} {A B : Option Addr} {c d : Nat} {w : World} (h : PathAt (Old w) w l A c) (h' : PathAt (Old w) w m B d) :
    Calls Try.prog 5 #[.slice A l.length c, .slice B m.length d] w (CmpPost (pcmp (pel l) (pel m)) w) := by
  have H1 := hide (toPath_calls h)
  have H2 := hide fun (W : World) (hb : Below w.heap.size w W) => toPath_calls (h'.at_ hb)
  clear h h'
  generalize pel l = p at *
  generalize pel m = q at *
  generalize l.length = ln at *
  generalize m.length = mn at *
  go_enter Try.func5, Try.ntmps5
  go_wp2_with fail
  refine H1.out.mono ?_
  rintro e w1 ⟨A1, c1, rfl, hp, hb1⟩
  have Hp := hide (And.intro hp hb1)
  clear hp hb1 H1
  go_wp2_with fail
  refine (H2.out w1 Hp.out.2).mono ?_
  rintro e w2 ⟨A2, c2, rfl, hq, hb2⟩
  have HC := hide (pathCompare_calls (((Hp.out.1.keeps (Keeps.below hb2 fun b hb => hb.2)).mono fun b hb => Nat.lt_of_lt_of_le hb.2 hb2.size)) (hq.mono fun b hb => hb.2))
  have Hb := hide (Hp.out.2.trans (hb2.mono Hp.out.2.size))
  clear hq hb2 H2 Hp
  go_wp2_with fail
  refine HC.out.mono ?_
  rintro e w3 ⟨rfl, hb3⟩
  have Hb3 := hide (Hb.out.trans (hb3.mono Hb.out.size))
  clear hb3
  go_wp2
  go_ret
  exact ⟨rfl, Hb3.out⟩
set_option maxRecDepth 100000 in
theorem implEqualPaths_calls {l m : List REl} {A B : Option Addr} {c d : Nat} {w : World} (h : PathAt (Old w) w l A c) (h' : PathAt (Old w) w m B d) :
    Calls Try.prog 6 #[.slice A l.length c, .slice B m.length d] w (EqPost (peqv (pel l) (pel m)) w) := by
  have H1 := hide (toPath_calls h)
  have H2 := hide fun (W : World) (hb : Below w.heap.size w W) => toPath_calls (h'.at_ hb)
  clear h h'
  generalize pel l = p at *
  generalize pel m = q at *
  generalize l.length = ln at *
  generalize m.length = mn at *
  go_enter Try.func6, Try.ntmps6
  go_wp2_with fail
  refine H1.out.mono ?_
  rintro e w1 ⟨A1, c1, rfl, hp, hb1⟩
  have Hp := hide (And.intro hp hb1)
  clear hp hb1 H1
  go_wp2_with fail
  refine (H2.out w1 Hp.out.2).mono ?_
  rintro e w2 ⟨A2, c2, rfl, hq, hb2⟩
  have HC := hide (pathEquals_calls (((Hp.out.1.keeps (Keeps.below hb2 fun b hb => hb.2)).mono fun b hb => Nat.lt_of_lt_of_le hb.2 hb2.size)) (hq.mono fun b hb => hb.2))
  have Hb := hide (Hp.out.2.trans (hb2.mono Hp.out.2.size))
  clear hq hb2 H2 Hp
  go_wp2_with fail
  refine HC.out.mono ?_
  rintro e w3 ⟨rfl, hb3⟩
  have Hb3 := hide (Hb.out.trans (hb3.mono Hb.out.size))
  clear hb3
  go_wp2
  go_ret
  exact ⟨rfl, Hb3.out⟩

end Go.Proofs.Ytajeghkjppkhcaa
