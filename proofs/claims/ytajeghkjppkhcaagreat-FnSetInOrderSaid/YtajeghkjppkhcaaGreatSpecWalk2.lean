/-
  spec.CleanPath, Listed. Printed by genspecwalk2.py.
-/
import Derived.Test.YtajeghkjppkhcaaGreatSpecPW
import Derived.Test.YtajeghkjppkhcaaGreatElemSetX
set_option linter.unusedVariables false
set_option linter.unusedSimpArgs false
namespace Go.Proofs.YtajeghkjppkhcaaGreat
open Go.RowKit
attribute [local go_sem] run_store_float

/-- at the head of a round of CleanPath -/
def CPInv (w : World) (p : List E) (s3 s9 : Value) (W : World) : Prop :=
  ∃ (k : Nat) (us : List Value), s9 = .int .i64 (k : Int) ∧ k ≤ p.length ∧ W.ownsRow w.heap.size 33 11 s3 k us ∧ Cells 11 (ElemAt (FrX w.heap.size W s3) W) ((p.take k).map E.toREl) us ∧ Below w.heap.size w W

set_option maxRecDepth 100000 in
set_option maxHeartbeats 4000000 in
theorem cleanPath_calls {l : List REl} {A : Option Addr} {c : Nat} {w : World} (h : PathAt (Old w) w l A c) : Calls Tryz.prog 72 #[.slice A l.length c] w (GivesEls ((pel l).map E.toREl) w) := by
  obtain ⟨h1, h2, h3, xs, h4, h5⟩ := h
  have h1' : l.length * 168 ≤ 140737488351232 := h1
  obtain ⟨i9, hi9, hz9, hs9, hb9⟩ := info_parts elem_info
  have H7 := hide (And.intro h4 h5)
  have Hpl := hide (pel_length l)
  clear h1 h4 h5
  go_enter Tryz.func72, Tryz.ntmps72
  go_wp2_with (at_make; refine wpList_make_own _ rfl _ _ 22 rfl w.heap.size 33 i9 _ 11 Tryz.underlying22 hi9 hz9 hs9 _ _ _ l.length rfl rfl rfl ?b2 ?b3 ?b4 ?_)
  case b2 => rw [hb9]; omega
  case b3 => unfold maxLen; omega
  case b4 => simp
  intro w0 hown0 hgrow0
  have hb0 : Below w.heap.size w w0 := (Below.refl _ _).grown hgrow0 (by simp) (fun k h => by cases h)
  have H0 := hide (And.intro hb0 hown0)
  clear hgrow0 hb0 hown0
  go_wp2_with fail
  go_loopw [3, 11] (fun s3 s9 W => CPInv w (pel l) s3 s9 W) (fun _ s _ => l.length - (intOf s).toNat)
  case atStart => exact ⟨0, [], rfl, Nat.zero_le _, H0.out.2, Cells.nil_, H0.out.1⟩
  case round =>
    obtain ⟨k, us, rfl, hk, hown, hus, hb⟩ := hrel
    rw [Hpl.out] at hk
    by_cases hlt : k < l.length
    · have hki0 : (0 : Int) ≤ (k : Int) := Int.natCast_nonneg _
      have hki1 : (k : Int) < (l.length : Int) := by omega
      have hx := H7.out.2.at_ hlt
      have hsn : ((pel l).take (k + 1)).map E.toREl = ((pel l).take k).map E.toREl ++ [(l[k]).elem.toREl] := by rw [List.take_succ_eq_append_getElem (by rw [Hpl.out]; exact hlt)]; simp [pel]
      generalize l[k] = fx at *
      generalize hcs : (xs.drop (k * 11)).take 11 = fcs at hx
      obtain ⟨a0, a1, a2, a3, a4, a5, a6, a7, a8, a9, aa, ab, ac, ad, ae, af, ag, ah, ai, rfl⟩ := hx.form
      obtain ⟨rb, ro, rfl, hF, hc⟩ := rown_at H7.out.1 hlt hcs
      have ec := (bcell hb).1
      have m0 := (ec _ _ hF).trans (hc 0 _ rfl)
      have m1 := (ec _ _ hF).trans (hc 1 _ rfl)
      have m2 := (ec _ _ hF).trans (hc 2 _ rfl)
      have m3 := (ec _ _ hF).trans (hc 3 _ rfl)
      have m4 := (ec _ _ hF).trans (hc 4 _ rfl)
      have m5 := (ec _ _ hF).trans (hc 5 _ rfl)
      have m6 := (ec _ _ hF).trans (hc 6 _ rfl)
      have m7 := (ec _ _ hF).trans (hc 7 _ rfl)
      have m8 := (ec _ _ hF).trans (hc 8 _ rfl)
      have m9 := (ec _ _ hF).trans (hc 9 _ rfl)
      have m10 := (ec _ _ hF).trans (hc 10 _ rfl)
      rw [Nat.add_zero] at m0
      have hrb : rb < w.heap.size := hF
      have HE := hide fun (W : World) (hb : Below w.heap.size w W) => cleanElem_calls fx W _ (hx.at_ hb)
      have Hq := hide (And.intro hown (And.intro hus (And.intro hb hsn)))
      clear hown hus hb hsn hx hcs hc ec hF
      go_wp2_with fail
      have hbA : Below wr.heap.size wr (wr.alloc (.cells #[.int .i64 a0, .string a1, .slice a2 a3 a4, .slice a5 a6 a7, .int .i64 a8, .int .i64 a9, .float .f64 aa, .string ab, .slice ac ad ae, .slice af ag ah, .int .i64 ai] 33)) := (Below.refl _ _).alloc (Nat.le_refl _) _
      have hbw := Hq.out.2.2.1.trans (hbA.mono Hq.out.2.2.1.size)
      refine (HE.out _ hbw).mono ?_
      rintro e w1 ⟨ps, rfl, hp, hb1⟩
      obtain ⟨e0, e1, e2, e3, e4, e5, e6, e7, e8, e9, ea, eb, ec', ed, ee, ef, eg, eh, ei, rfl⟩ := hp.form
      have hp' : ElemAt (Fr wr.heap.size w1) w1 fx.elem.toREl [.int .i64 e0, .string e1, .slice e2 e3 e4, .slice e5 e6 e7, .int .i64 e8, .int .i64 e9, .float .f64 ea, .string eb, .slice ec' ed ee, .slice ef eg eh, .int .i64 ei] := hp.mono fun b hb => ⟨by have := hb.1; rw [World.size_alloc] at this; omega, hb.2⟩
      have hb1' : Below wr.heap.size wr w1 := hbA.trans (hb1.mono hbA.size)
      have H1 := hide (And.intro hp' hb1')
      have hs0 : w.heap.size ≤ w1.heap.size := (Hq.out.2.2.1.trans (hb1'.mono Hq.out.2.2.1.size)).size
      clear hp hp' hb1 hb1' hbA hbw m0 m1 m2 m3 m4 m5 m6 m7 m8 m9 m10 HE
      obtain ⟨oA, oc, rfl, _, _⟩ := own_form Hq.out.1
      go_wp2_with (at_builtin; go_loud (refine wpList_append_row _ rfl (.tmp 15) (.tmp 18) 22 rfl w.heap.size 33 i9 _ 11 168 Tryz.underlying22 hi9 hz9 hs9 hb9 rfl (by omega) _ k us rfl ((ownsRow_below Hq.out.1 H1.out.2 (Nat.le_refl _)).alloc _) (fun _ => True) (some ⟨w1.heap.size, 0, none⟩) 1 1 [.int .i64 e0, .string e1, .slice e2 e3 e4, .slice e5 e6 e7, .int .i64 e8, .int .i64 e9, .float .f64 ea, .string eb, .slice ec' ed ee, .slice ef eg eh, .int .i64 ei] rfl (Row.of_bkp (Bk.new w1 33 ([.int .i64 e0, .string e1, .slice e2 e3 e4, .slice e5 e6 e7, .int .i64 e8, .int .i64 e9, .float .f64 ea, .string eb, .slice ec' ed ee, .slice ef eg eh, .int .i64 ei] : List Value).toArray) rfl trivial) (by simp [Value.oneCell']) (by omega) (by omega) (by rw [World.size_alloc]; omega) ?_))
      intro out' w2 hown2 hg2 hat2
      have hcs := cells_stepp (Q := fun F w a cs => ElemAt F w a cs) (a := fx.elem.toREl) (fun h k => h.keeps k) (fun h k => h.mono k) Hq.out.1 Hq.out.2.1 Hq.out.2.2.1.size H1.out.1 rfl H1.out.2 hg2 (by rw [World.size_alloc]; exact hat2)
      have hlo := Hq.out.1.lt
      have hbf : Below w.heap.size w w2 := ((Hq.out.2.2.1.trans (H1.out.2.mono Hq.out.2.2.1.size)).alloc hs0 _).grown hg2 (by rw [World.size_alloc]; omega) fun k e => (hlo k e).1
      have Hfin := hide (And.intro hown2 (And.intro hcs (And.intro hbf Hq.out.2.2.2)))
      obtain ⟨nA, nc, rfl, _, _⟩ := own_form hown2
      clear hown2 hg2 hat2 hcs hlo hbf H1 Hq hs0
      go_wp2_with fail
      exact ⟨⟨k + 1, _, by go_num, by rw [Hpl.out]; omega, Hfin.out.1, by rw [Hfin.out.2.2.2]; exact Hfin.out.2.1.1, Hfin.out.2.2.1⟩, by simp [intOf]; omega⟩
    · have hke : k = l.length := by omega
      subst hke
      have hki1 : ¬ ((l.length : Nat) : Int) < (l.length : Int) := by omega
      rw [List.take_of_length_le (by rw [Hpl.out]; omega)] at hus
      obtain ⟨oA, oc, rfl, hc1, hc2⟩ := own_form hown
      have hlt := hown.lt
      have hlm : ((pel l).map E.toREl).length = l.length := by rw [List.length_map, Hpl.out]
      have hfin : PathAt (Fr w.heap.size wr) wr ((pel l).map E.toREl) oA oc := ⟨by rw [hlm]; unfold R47; omega, by rw [hlm]; exact hc1, hc2, us, by rw [hlm]; exact Row.of_own hown hlt, hus.mono fun a cs h => h.mono fun b hb => ⟨hb.1, hb.2.1⟩⟩
      have H3 := hide (And.intro hb hfin)
      have Hlm := hide hlm
      clear hb hown hus hlt hc1 hc2 hfin hlm
      go_wp2
      go_ret
      exact ⟨oA, oc, by rw [Hlm.out]; rfl, H3.out.2, H3.out.1⟩

/-- pair by pair equal, and as many -/
def peqvs : List (List E) → List (List E) → Bool
  | [], [] => true
  | a :: p, b :: q => peqv a b && peqvs p q
  | _, _ => false
theorem peqvs_len : ∀ {p q : List (List E)}, p.length ≠ q.length → peqvs p q = false
  | [], [], h => absurd rfl h
  | [], _ :: _, _ => rfl
  | _ :: _, [], _ => rfl
  | a :: p, b :: q, h => by rw [peqvs, peqvs_len (fun e => h (by simp [e])), Bool.and_false]
theorem peqvs_round {p q : List (List E)} {k : Nat} (h : peqvs p q = peqvs (p.drop k) (q.drop k)) (h1 : k < p.length) (h2 : k < q.length) : (peqv p[k] q[k] = true → peqvs p q = peqvs (p.drop (k + 1)) (q.drop (k + 1))) ∧ (peqv p[k] q[k] = false → peqvs p q = false) := by
  rw [h, List.drop_eq_getElem_cons h1, List.drop_eq_getElem_cons h2, peqvs]
  exact ⟨fun e => by rw [e, Bool.true_and], fun e => by rw [e, Bool.false_and]⟩
theorem peqvs_alike : ∀ {p q : List (List E)}, (∀ x ∈ p, POk x) → (∀ x ∈ q, POk x) → (peqvs p q = true ↔ Alike wcmp p q)
  | [], [], _, _ => by simp [peqvs, Alike]
  | [], _ :: _, _, _ => by simp [peqvs, Alike]
  | _ :: _, [], _, _ => by simp [peqvs, Alike]
  | a :: p, b :: q, h1, h2 => by
    rw [peqvs, Bool.and_eq_true, peqv_iff (h1 a (by simp)) (h2 b (by simp)), peqvs_alike (fun x hx => h1 x (by simp [hx])) (fun x hx => h2 x (by simp [hx])), Alike, wcmp_zero]

/-- at the head of a round of Listed -/
def LsInv (w : World) (p q : List (List E)) (s : Value) (W : World) : Prop := ∃ k : Nat, s = .int .i64 (k : Int) ∧ k ≤ p.length ∧ peqvs p q = peqvs (p.drop k) (q.drop k) ∧ Below w.heap.size w W

set_option maxRecDepth 100000 in
set_option maxHeartbeats 4000000 in
theorem listed_calls {l m : List (List REl)} {A B : Option Addr} {c d : Nat} {w : World} (h : PathsAt (Old w) w l A c) (h' : PathsAt (Old w) w m B d) :
    Calls Tryz.prog 26 #[.slice A l.length c, .slice B m.length d] w (EqPost (peqvs (pelsP l) (pelsP m)) w) := by
  obtain ⟨h1, h2, h3, xs, h4, h5⟩ := h
  obtain ⟨h1', h2', h3', ys, h4', h5'⟩ := h'
  have hl47 : l.length * 24 ≤ 140737488351232 := h1
  have hm47 : m.length * 24 ≤ 140737488351232 := h1'
  have hpl : (pelsP l).length = l.length := List.length_map _
  have hpm : (pelsP m).length = m.length := List.length_map _
  have H7 := hide (And.intro h4 (And.intro h5 (And.intro h4' h5')))
  by_cases hlen : l.length = m.length
  · obtain ⟨n, hn⟩ : ∃ n, l.length = n := ⟨_, rfl⟩
    have hn' : m.length = n := by omega
    obtain ⟨r, hr⟩ : ∃ r, peqvs (pelsP l) (pelsP m) = r := ⟨_, rfl⟩
    rw [hr, hn, hn']
    rw [hn] at hl47 hpl
    rw [hn'] at hpm
    have Hr := hide (And.intro hr (And.intro hpl (And.intro hpm (And.intro hn hn'))))
    clear h1 h4 h5 h1' h4' h5' hr hn hn' hlen h2 h2' h3 h3' hm47 hpl hpm
    go_enter Tryz.func26, Tryz.ntmps26
    go_wp2_with fail
    go_loopw [13] (fun s W => LsInv w (pelsP l) (pelsP m) s W) (fun s _ => n - (intOf s).toNat)
    case atStart => exact ⟨0, rfl, Nat.zero_le _, by simp, Below.refl _ _⟩
    case round =>
      obtain ⟨k, rfl, hk1, heq, hb⟩ := hrel
      rw [Hr.out.2.1] at hk1
      have hki0 : (0 : Int) ≤ (k : Int) := Int.natCast_nonneg _
      by_cases hp : k < n
      · have hpi : (k : Int) < (n : Int) := by omega
        have hp1 : k < l.length := by rw [Hr.out.2.2.2.1]; exact hp
        have hq1 : k < m.length := by rw [Hr.out.2.2.2.2]; exact hp
        have hrd := peqvs_round heq (by rw [Hr.out.2.1]; exact hp) (by rw [Hr.out.2.2.1]; exact hp)
        have e1 : (pelsP l)[k]'(by rw [Hr.out.2.1]; exact hp) = pel l[k] := by simp [pelsP]
        have e2 : (pelsP m)[k]'(by rw [Hr.out.2.2.1]; exact hp) = pel m[k] := by simp [pelsP]
        rw [e1, e2] at hrd
        clear e1 e2
        have hx := H7.out.2.1.at_ hp1
        have hy := H7.out.2.2.2.at_ hq1
        generalize l[k] = x at *
        generalize m[k] = y at *
        obtain ⟨C, cd, ecs, hx⟩ := hx
        obtain ⟨C', cd', eds, hy⟩ := hy
        obtain ⟨rb, ro, rfl, hF, hc⟩ := rown_at H7.out.1 hp1 ecs
        obtain ⟨sb, so, rfl, hG, hd⟩ := rown_at H7.out.2.2.1 hq1 eds
        have ec := (bcell hb).1
        have m0 := (ec _ _ hF).trans (hc 0 _ rfl)
        have n0 := (ec _ _ hG).trans (hd 0 _ rfl)
        rw [Nat.mul_one, Nat.add_zero] at m0 n0
        obtain ⟨v, hv⟩ : ∃ v, peqv (pel x) (pel y) = v := ⟨_, rfl⟩
        have HC := hide fun (W : World) (hb : Below w.heap.size w W) => specEqualPaths_calls (hx.at_ hb) (hy.at_ hb)
        rw [hv] at HC hrd
        rw [Hr.out.1] at hrd
        have Hrd := hide hrd
        have Hb := hide hb
        clear hb hx hy ecs eds hc hd ec hF hG hrd heq hv hp1 hq1 hk1
        go_wp2_with fail
        go_still_tail 8, (by kernel_rfl)
        change wpList _ _ _ _ _ wr.drew
        go_wp2_with fail
        refine (HC.out wr.drew (below_drew Hb.out)).mono ?_
        rintro e w1 ⟨rfl, hb1⟩
        have H1 := hide (Hb.out.trans ((below_drew' hb1).mono Hb.out.size))
        clear hb1 m0 n0
        cases v
        · have hs := Hrd.out.2 rfl
          subst hs
          clear Hrd HC
          go_wp2
          go_ret
          exact ⟨rfl, H1.out⟩
        · have hs := Hrd.out.1 rfl
          have Hs := hide (Hr.out.1.trans hs)
          clear hs Hrd HC
          go_wp2_with fail
          exact ⟨⟨k + 1, by go_num, by rw [Hr.out.2.1]; omega, Hs.out, H1.out⟩, by simp [intOf]; omega⟩
      · have hpi : ¬ (k : Int) < (n : Int) := by omega
        have hr1 : r = true := by
          have e1 : (pelsP l).drop k = [] := List.drop_eq_nil_of_le (by rw [Hr.out.2.1]; omega)
          have e2 : (pelsP m).drop k = [] := List.drop_eq_nil_of_le (by rw [Hr.out.2.2.1]; omega)
          rw [Hr.out.1, e1, e2] at heq
          exact heq
        subst hr1
        have Hb := hide hb
        clear hb heq hk1
        go_wp2
        go_ret
        exact ⟨rfl, Hb.out⟩
  · rw [peqvs_len (by rw [hpl, hpm]; exact hlen)]
    have hli : ¬ (l.length : Int) = (m.length : Int) := by omega
    have hlb : ((l.length : Int) == (m.length : Int)) = false := beq_eq_false_iff_ne.2 hli
    have hlb2 : ((l.length : Int) != (m.length : Int)) = true := bne_iff_ne.2 hli
    clear h1 h4 h5 h1' h4' h5' hpl hpm
    go_enter Tryz.func26, Tryz.ntmps26
    go_wp2
    go_ret
    exact ⟨rfl, Below.refl _ _⟩

end Go.Proofs.YtajeghkjppkhcaaGreat
