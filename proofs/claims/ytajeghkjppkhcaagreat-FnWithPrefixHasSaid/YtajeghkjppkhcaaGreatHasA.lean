/-
  Several texts in one: HasP, SetHas, SetHas2.
-/
import Derived.Test.YtajeghkjppkhcaaGreatWpA
import Derived.Test.YtajeghkjppkhcaaGreatAlgM
set_option linter.unusedVariables false
set_option linter.unusedSimpArgs false
/-!
  Plain: whether a set has a path, as the package asks.
-/

namespace Go.Proofs.YtajeghkjppkhcaaGreat

/-- whether a set has a path, step by step -/
def hasB : List E → St → Bool
  | [], _ => false
  | [e], s => hasC E.cmp e s.mem
  | e :: x :: p, s => match findK e s.kids with
    | none => false
    | some t => hasB (x :: p) t
theorem hasB_found {e x : E} {q : List E} {s t : St} (h : findK e s.kids = some t) : hasB (e :: x :: q) s = hasB (x :: q) t := by rw [hasB, h]
theorem hasB_none {e x : E} {q : List E} {s : St} (h : findK e s.kids = none) : hasB (e :: x :: q) s = false := by rw [hasB, h]
theorem hasB_iff : ∀ {p : List E} {s : St}, s.WF → POk p → (hasB p s = true ↔ s.Has p)
  | [], s, h, _ => by simp [hasB, has_nil h]
  | [e], s, h, hp => by
    rw [has_one h, hasB]
    cases h with
    | mk h1 h2 h3 h4 h5 => exact hasC_iff E.ord_ (hp e (by simp)) h1 h2
  | e :: x :: p, s, h, hp => by
    rw [has_cons h (hp e (by simp)) (by simp), hasB]
    cases hf : findK e s.kids with
    | none => simp
    | some t =>
      obtain ⟨k, hk, -, rfl⟩ := findK_mem hf
      cases h with
      | mk h1 h2 h3 h4 h5 =>
        have := hasB_iff (h5 k hk) (p := x :: p) fun z hz => hp z (by simp [hz])
        show hasB (x :: p) k.2 = true ↔ _
        rw [this]
        simp
theorem bool_iff {a b : Bool} (h : a = true ↔ b = true) : a = b := by cases a <;> cases b <;> simp at h ⊢
/-- WithPrefix by e has p just if the set has e followed by p -/
theorem sub_hasB {ls : List (List E)} {e : E} {p : List E} (h : ∀ q ∈ ls, POk q) (he : e.Ok) (hp : POk p) (hp0 : p ≠ []) : hasB p (setP (subK e (setP ls)).paths) = hasB (e :: p) (setP ls) := by
  have hw := setP_wf h
  have hwk := subK_wf (e := e) hw
  have hok := paths_pok hwk
  have hex : POk (e :: p) := fun z hz => by
    rcases List.mem_cons.1 hz with rfl | hz
    · exact he
    · exact hp z hz
  refine bool_iff ?_
  rw [hasB_iff (setP_wf hok) hp, hasB_iff hw hex, has_setP hok hp hp0]
  exact subK_has hw he hp0
/-- what was put in is in -/
theorem sub_put {ls : List (List E)} {e : E} {p : List E} (h : ∀ q ∈ ls, POk q) (he : e.Ok) (hp : POk p) (hp0 : p ≠ []) : hasB p (setP (subK e (setP (ls ++ [e :: p]))).paths) = true := by
  have hex : POk (e :: p) := fun z hz => by
    rcases List.mem_cons.1 hz with rfl | hz
    · exact he
    · exact hp z hz
  have h' : ∀ q ∈ ls ++ [e :: p], POk q := fun q hq => by
    rcases List.mem_append.1 hq with hq | hq
    · exact h q hq
    · rw [List.mem_singleton.1 hq]; exact hex
  rw [sub_hasB h' he hp hp0, hasB_iff (setP_wf h') hex, has_setP h' hex (by simp)]
  exact ⟨e :: p, by simp, wcmp_self hex⟩
end Go.Proofs.YtajeghkjppkhcaaGreat

/-!
  PathElementSet.Has, Set.Has, impl.SetHas.
-/

namespace Go.Proofs.YtajeghkjppkhcaaGreat
open Go.RowKit
attribute [local go_sem] run_store_float

set_option maxRecDepth 100000 in
theorem hasCmp_calls {e1 e2 : E} {cs1 cs2 : List Value} {w : World} (h1 : PEAt (Old w) w e1 cs1) (h2 : PEAt (Old w) w e2 cs2) : Calls Tryz.prog 172 #[.agg cs1.toArray, .agg cs2.toArray] w (CmpPost (E.cmp e1 e2) w) := by
  obtain ⟨a0, a1, a2, a3, rfl⟩ := h1.form
  obtain ⟨b0, b1, b2, b3, rfl⟩ := h2.form
  have hb : Below w.heap.size w ((w.alloc (.cells #[.pointer a0, .pointer a1, .pointer a2, .pointer a3] 96)).alloc (.cells #[.pointer b0, .pointer b1, .pointer b2, .pointer b3] 96)) := ((Below.refl _ _).alloc (Nat.le_refl _) _).alloc (by simp) _
  have H := hide (peCompare_calls (h1.at_ hb) (h2.at_ hb))
  have Hb := hide hb
  clear h1 h2 hb
  go_enter Tryz.func172, Tryz.ntmps172
  go_wp2_with fail
  refine H.out.mono ?_
  rintro e w1 ⟨rfl, hb1⟩
  have Hb1 := hide (Hb.out.trans (hb1.mono Hb.out.size))
  clear hb1
  go_wp2
  go_ret
  exact ⟨rfl, Hb1.out⟩

def EHS (a h : Nat) (u c0 c1 c2 c3 : Value) (W : World) : Prop := W.cell? ⟨a, 0, none⟩ = some u ∧ W.cell? ⟨h, 0, none⟩ = some c0 ∧ W.cell? ⟨h, 1, none⟩ = some c1 ∧ W.cell? ⟨h, 2, none⟩ = some c2 ∧ W.cell? ⟨h, 3, none⟩ = some c3

set_option maxRecDepth 100000 in
set_option maxHeartbeats 4000000 in
theorem esHas_calls {w : World} {g : Nat} {m : List E} {e : E} {p0 p1 p2 p3 : Option Addr} {MA : Option Addr} {mc : Nat} {xs : List Value} (hgl : g < w.heap.size) (m0 : w.cell? ⟨g, 0, none⟩ = some (.slice MA m.length mc)) (h47 : m.length * 32 ≤ R47) (hrow : Row (Old w) w 4 MA m.length xs)
    (hx : Cells 4 (PEAt (Old w) w) m xs) (hok : POk m) (hs : SortC E.cmp m) (he : e.Ok) (hpe : PEAt (Old w) w e [.pointer p0, .pointer p1, .pointer p2, .pointer p3]) :
    Calls Tryz.prog 129 #[.pointer (some ⟨g, 0, none⟩), .agg #[.pointer p0, .pointer p1, .pointer p2, .pointer p3]] w (EqPost (hasC E.cmp e m) w) := by
  have hbx : Below w.heap.size w (w.alloc (.cells #[.pointer p0, .pointer p1, .pointer p2, .pointer p3] 96)) := (Below.refl _ _).alloc (Nat.le_refl _) _
  have hbox := Bk.new w 96 #[.pointer p0, .pointer p1, .pointer p2, .pointer p3]
  obtain ⟨w1, hw1⟩ : ∃ w1, w.alloc (.cells #[.pointer p0, .pointer p1, .pointer p2, .pointer p3] 96) = w1 := ⟨_, rfl⟩
  rw [hw1] at hbx hbox
  have hsz1 : w1.heap.size = w.heap.size + 1 := by rw [← hw1, World.size_alloc]
  have hbd : Below w.heap.size w w1.drew := below_drew hbx
  have kF : Keeps (Old w) w w1.drew := Keeps.below hbd fun _ h => h
  have up : ∀ b, Old w b → Old w1.drew b := fun b hb => by have hb : b < w.heap.size := hb; show b < w1.heap.size; omega
  have hsearch := searchE_calls (f := 172) (fun args W => by kernel_rfl) (Q := fun W a cs => PEAt (Old W) W a cs) (l := m) (A := MA) (c := mc) (w := w1.drew) (xs := xs) (e := e) (t0 := .pointer p0) (t1 := .pointer p1) (t2 := .pointer p2) (t3 := .pointer p3)
    h47 ((hrow.keeps kF).mono up) (hx.mono fun _ _ h => (h.keeps kF).mono up)
    (fun W a cs hb h => h.at_ hb) (fun W a cs h => by obtain ⟨a, b, c, d, rfl⟩ := h.form; rfl) hok he hs
    (fun a cs W hb h => hasCmp_calls h (((hpe.keeps kF).mono up).at_ hb))
  have Hs := hide hsearch
  have H0 := hide hbx
  have s0 := ((bcell hbx).1 g 0 hgl).trans m0
  have b0 := hbox.cell 0
  have b1 := hbox.cell 1
  have b2 := hbox.cell 2
  have b3 := hbox.cell 3
  simp at b0 b1 b2 b3
  clear hsearch hrow hbx hbox hbd kF up hpe m0 h47 hx hok hs he
  go_enter Tryz.func129, Tryz.ntmps129
  go_wp2_with fail
  try rw [hw1]
  obtain ⟨S, hS⟩ : ∃ S, EHS g w.heap.size (.slice MA m.length mc) (.pointer p0) (.pointer p1) (.pointer p2) (.pointer p3) = S := ⟨_, rfl⟩
  have hS0 : S w1.drew := by rw [← hS]; exact ⟨s0, b0, b1, b2, b3⟩
  refine wp_region_head 10 S (by rfl) (by kernel_rfl) ?_
  refine HT.take 0 (v := ?_) rfl (by kernel_rfl) (fun _ _ _ h => h) (Or.inl ⟨by rfl, ?_⟩) (by assumption) ?_
  rotate_left
  · intro W hSw; rw [← hS] at hSw; obtain ⟨m0, b0, b1, b2, b3⟩ := (show EHS g w.heap.size (.slice MA m.length mc) (.pointer p0) (.pointer p1) (.pointer p2) (.pointer p3) W from hSw); go_simp; with_reducible rfl
  simp only [Act.put, List.setIfInBounds_toArray, List.set_cons_zero, List.set_cons_succ]
  refine HT.take 1 (v := ?_) rfl (by kernel_rfl) (fun _ _ _ h => h) (Or.inl ⟨by rfl, ?_⟩) (by assumption) ?_
  rotate_left
  · intro W hSw; rw [← hS] at hSw; obtain ⟨m0, b0, b1, b2, b3⟩ := (show EHS g w.heap.size (.slice MA m.length mc) (.pointer p0) (.pointer p1) (.pointer p2) (.pointer p3) W from hSw); go_simp; with_reducible rfl
  simp only [Act.put, List.setIfInBounds_toArray, List.set_cons_zero, List.set_cons_succ]
  refine HT.take 2 (v := ?_) rfl (by kernel_rfl) (fun _ _ _ h => h) (Or.inl ⟨by rfl, ?_⟩) (by assumption) ?_
  rotate_left
  · intro W hSw; rw [← hS] at hSw; obtain ⟨m0, b0, b1, b2, b3⟩ := (show EHS g w.heap.size (.slice MA m.length mc) (.pointer p0) (.pointer p1) (.pointer p2) (.pointer p3) W from hSw); go_simp; with_reducible rfl
  simp only [Act.put, List.setIfInBounds_toArray, List.set_cons_zero, List.set_cons_succ]
  refine HT.take 3 (v := ?_) rfl (by kernel_rfl) (fun _ _ _ h => h) (Or.inl ⟨by rfl, ?_⟩) (by assumption) ?_
  rotate_left
  · intro W hSw; rw [← hS] at hSw; obtain ⟨m0, b0, b1, b2, b3⟩ := (show EHS g w.heap.size (.slice MA m.length mc) (.pointer p0) (.pointer p1) (.pointer p2) (.pointer p3) W from hSw); go_simp; with_reducible rfl
  simp only [Act.put, List.setIfInBounds_toArray, List.set_cons_zero, List.set_cons_succ]
  refine HT.take 4 (v := ?_) rfl (by kernel_rfl) (fun _ _ _ h => h) (Or.inl ⟨by rfl, ?_⟩) (by assumption) ?_
  rotate_left
  · intro W hSw; rw [← hS] at hSw; obtain ⟨m0, b0, b1, b2, b3⟩ := (show EHS g w.heap.size (.slice MA m.length mc) (.pointer p0) (.pointer p1) (.pointer p2) (.pointer p3) W from hSw); go_simp; with_reducible rfl
  simp only [Act.put, List.setIfInBounds_toArray, List.set_cons_zero, List.set_cons_succ]
  refine HT.one 5 rfl (by kernel_rfl) (by rfl) (fun K hK => ?_)
  go_simp
  refine Hs.out.mono ?_
  rintro en w2 ⟨rfl, hb2⟩
  have hb2' : Below w1.heap.size w1 w2 := below_drew' hb2
  have ec := (bcell hb2').1
  have hS1 : S w2 := by rw [← hS]; exact ⟨(ec g 0 (by omega)).trans s0, (ec _ _ (by omega)).trans b0, (ec _ _ (by omega)).trans b1, (ec _ _ (by omega)).trans b2, (ec _ _ (by omega)).trans b3⟩
  have hbw : Below w.heap.size w w2 := H0.out.trans (hb2'.mono (by omega))
  obtain ⟨hh, hhe⟩ : ∃ hh, hasC E.cmp e m = hh := ⟨_, rfl⟩
  rw [hhe]
  go_simp
  refine hK.out _ _ hS1 ?_
  clear hK
  refine HT.take 6 (v := ?_) rfl (by kernel_rfl) (fun _ _ _ h => h) (Or.inl ⟨by rfl, ?_⟩) (by assumption) ?_
  rotate_left
  · intro W hSw; go_simp; with_reducible rfl
  simp only [Act.put, List.setIfInBounds_toArray, List.set_cons_zero, List.set_cons_succ]
  refine HT.take 7 (v := ?_) rfl (by kernel_rfl) (fun _ _ _ h => h) (Or.inl ⟨by rfl, ?_⟩) (by assumption) ?_
  rotate_left
  · intro W hSw; go_simp; with_reducible rfl
  simp only [Act.put, List.setIfInBounds_toArray, List.set_cons_zero, List.set_cons_succ]
  refine HT.take 8 (v := ?_) rfl (by kernel_rfl) (fun _ _ _ h => h) (Or.inl ⟨by rfl, ?_⟩) (by assumption) ?_
  rotate_left
  · intro W hSw; go_simp; with_reducible rfl
  simp only [Act.put, List.setIfInBounds_toArray, List.set_cons_zero, List.set_cons_succ]
  refine HT.take 9 (v := ?_) rfl (by kernel_rfl) (fun _ _ _ h => h) (Or.inl ⟨by rfl, ?_⟩) (by assumption) ?_
  rotate_left
  · intro W hSw; go_simp; with_reducible rfl
  simp only [Act.put, List.setIfInBounds_toArray, List.set_cons_zero, List.set_cons_succ]
  refine HT.done (by kernel_rfl) ?_
  have Hb := hide hbw
  have Hhe := hide hhe
  clear hb2 hb2' ec hS0 hS1 hbw Hs s0 b0 b1 b2 b3 hhe
  go_wp2
  go_ret
  exact ⟨by rw [Hhe.out]; rfl, Hb.out⟩

def sliceLen : Value → Nat
  | .slice _ n _ => n
  | _ => 0
theorem PPathAt.tail_ {F : Nat → Prop} {w : World} {e : E} {p : List E} {b o c : Nat} (h : PPathAt F w (e :: p) (some ⟨b, o, none⟩) c) : PPathAt F w p (some ⟨b, o + 4, none⟩) (c - 1) := by
  obtain ⟨h1, h2, h3, xs, h4, h5⟩ := h
  simp only [List.length_cons] at h1 h2 h4
  refine ⟨by omega, by omega, by omega, xs.drop (1 * 4), ?_, ?_⟩
  · have := h4.drop_at (m := 1) (by omega)
    rwa [Nat.add_sub_cancel] at this
  · exact h5.drop_ 1

/-- at the head of a round of Set.Has -/
def SHInv (w : World) (p : List E) (s : St) (s0 s1 : Value) (W : World) : Prop :=
  ∃ (q : List E) (t : St) (g : Nat) (A : Option Addr) (c : Nat), s0 = .pointer (some ⟨g, 0, none⟩) ∧ s1 = .slice A q.length c ∧ q ≠ [] ∧ POk q ∧ hasB p s = hasB q t ∧ t.WF ∧ SetR (Old W) W g t ∧ PPathAt (Old W) W q A c ∧ Below w.heap.size w W

set_option maxRecDepth 100000 in
set_option maxHeartbeats 8000000 in
theorem setHas_calls {w : World} {g : Nat} {s : St} {p : List E} {A : Option Addr} {c : Nat} (hs : SetR (Old w) w g s) (hwf : s.WF) (hp : PPathAt (Old w) w p A c) (hpo : POk p) :
    Calls Tryz.prog 83 #[.pointer (some ⟨g, 0, none⟩), .slice A p.length c] w (EqPost (hasB p s) w) := by
  by_cases hp0 : p = []
  · subst hp0
    show Calls _ _ #[.pointer (some ⟨g, 0, none⟩), .slice A 0 c] w _
    go_enter Tryz.func83, Tryz.ntmps83
    go_wp2
    go_ret
    exact ⟨rfl, Below.refl _ _⟩
  have H0 := hide (show SHInv w p s (.pointer (some ⟨g, 0, none⟩)) (.slice A p.length c) w from ⟨p, s, g, A, c, rfl, rfl, hp0, hpo, rfl, hwf, hs, hp, Below.refl _ _⟩)
  have hl1 : (p.length : Int) ≠ 0 := by
    cases p with
    | nil => exact absurd rfl hp0
    | cons a l => simp; omega
  have hl2 : ((p.length : Int) == 0) = false := beq_eq_false_iff_ne.2 hl1
  obtain ⟨r, hr⟩ : ∃ r, hasB p s = r := ⟨_, rfl⟩
  rw [hr]
  have Hr := hide hr
  clear hs hwf hp hpo hp0 hr hl1
  generalize p.length = n0 at *
  go_enter Tryz.func83, Tryz.ntmps83
  go_wp2_with fail
  go_loopw [0, 1] (fun s0 s1 W => SHInv w p s s0 s1 W) (fun _ s1 _ => sliceLen s1)
  case atStart => exact H0.out
  case round =>
    clear H0 hl2
    obtain ⟨q, t, g', A', c', rfl, rfl, hq0, hqo, heq, htw, hset, hpq, hb⟩ := hrel
    rw [Hr.out] at heq
    obtain ⟨e, q, rfl⟩ : ∃ e q', q = e :: q' := by
      cases q with
      | nil => exact absurd rfl hq0
      | cons e q => exact ⟨e, q, rfl⟩
    have hpq' := hpq
    obtain ⟨h47, hc1, hc2, xs, hrow, hcl⟩ := hpq
    have hel := hcl.at_ (i := 0) (by simp)
    rw [show (e :: q)[0] = e from rfl] at hel
    generalize hcs : (xs.drop (0 * 4)).take 4 = fcs at hel
    obtain ⟨p0, p1, p2, p3, rfl⟩ := hel.form
    obtain ⟨pb, po, rfl, hF, hcc⟩ := rown_at hrow (by simp) hcs
    have x0 := hcc 0 _ rfl
    have x1 := hcc 1 _ rfl
    have x2 := hcc 2 _ rfl
    have x3 := hcc 3 _ rfl
    simp only [Nat.zero_mul, Nat.add_zero] at x0 x1 x2 x3
    have hpb : pb < wr.heap.size := hF
    have heo : e.Ok := hqo e (by simp)
    have hset' := hset
    cases hset with
    | @mk _ m ks MA KA mc kc ys zs G h1 h2 h3 h4 h5 h6 h7 h8 h9 h10 h11 h12 h13 =>
    have hgl := h2.lt
    have g0 := h2.cell 0
    have g1 := h2.cell 1
    simp at g0 g1
    have up : ∀ (W : World), Below wr.heap.size wr W → Keeps (Old wr) wr W := fun W hb => Keeps.below hb fun _ h => h
    have hbd : Below wr.heap.size wr wr.drew := below_drew (Below.refl _ _)
    by_cases hq : q = []
    · subst hq
      have hcall := esHas_calls (w := wr.drew) (g := g') (m := m) (e := e) (by exact hgl) g0 h3 (h9.keeps (up _ hbd)) (h11.mono fun _ _ h => h.keeps (up _ hbd)) (by cases htw with | mk a1 a2 a3 a4 a5 => exact a1) (by cases htw with | mk a1 a2 a3 a4 a5 => exact a2) heo (hel.keeps (up _ hbd))
      have Hc := hide hcall
      have Heq := hide (show r = hasC E.cmp e m from heq)
      have Hb := hide hb
      clear hcall hrow hcl hcs hcc hF hel hset' h1 h2 h3 h4 h5 h6 h7 h8 h9 h10 h11 h12 h13 up hbd heq hb htw hqo heo hq0 hpq' g1 hc1 hc2
      rw [show ([e] : List E).length = 1 from rfl]
      go_wp2_with fail
      go_still_tail 6, (by kernel_rfl)
      change wpList _ _ _ _ _ wr.drew
      go_wp2_with fail
      refine Hc.out.mono ?_
      rintro en w2 ⟨rfl, hb2⟩
      have Hb2 := hide (Hb.out.trans ((below_drew' hb2).mono Hb.out.size))
      have e1 := Heq.out
      subst e1
      clear hb2 x0 x1 x2 x3 g0 Hr Heq
      go_wp2
      go_ret
      exact ⟨rfl, Hb2.out⟩
    · obtain ⟨x, qt, rfl⟩ : ∃ x q', q = x :: q' := by
        cases q with
        | nil => exact absurd rfl hq
        | cons e q => exact ⟨e, q, rfl⟩
      have htail := hpq'.tail_
      have hget := get_calls (w := wr.drew) (g := g') (m := m) hgl g1 h4 (h10.keeps (up _ hbd)) h10.1 (fun i k hk => (h12 i k hk).keeps (up _ hbd)) htw heo (hel.keeps (up _ hbd))
      have hkids : ∀ k ∈ ks, k.1.Ok ∧ k.2.WF := by cases htw with | mk a1 a2 a3 a4 a5 => exact fun k hk => ⟨a3 k hk, a5 k hk⟩
      have hksort : SortC kcmp ks := by cases htw with | mk a1 a2 a3 a4 a5 => exact a4
      have Hc := hide hget
      have Hk := hide (And.intro hkids (And.intro hksort (And.intro h13 (And.intro heo (And.intro heq (And.intro hqo htail))))))
      have Hb := hide hb
      obtain ⟨n, hn⟩ : ∃ n, (e :: x :: qt).length = n := ⟨_, rfl⟩
      have hn2 : 2 ≤ n := by rw [← hn]; simp
      have hn3 : (x :: qt).length = n - 1 := by rw [← hn]; simp
      rw [hn] at hc1 ⊢
      have Hn := hide hn3
      have hni : ((n : Int) == 1) = false := beq_eq_false_iff_ne.2 (by omega)
      have hni2 : (1 : Int) ≤ (n : Int) := by omega
      have hni3 : (0 : Int) < (n : Int) := by omega
      have hnn0 : 0 < n := by omega
      have hcne : ¬ c' = 1 := by omega
      clear hget hrow hcl hcs hcc hF hel hset' h1 h2 h3 h4 h5 h6 h7 h8 h9 h10 h11 h12 h13 up hbd heq hb htw hqo heo hq0 hpq' g0 hkids hksort htail hn hn3 hq h47
      go_wp2_with fail
      obtain ⟨S, hS⟩ : ∃ S, (fun W : World => W.cell? ⟨pb, po, none⟩ = some (.pointer p0) ∧ W.cell? ⟨pb, po + 1, none⟩ = some (.pointer p1) ∧ W.cell? ⟨pb, po + 2, none⟩ = some (.pointer p2) ∧ W.cell? ⟨pb, po + 3, none⟩ = some (.pointer p3)) = S := ⟨_, rfl⟩
      have hS0 : S wr.drew := by rw [← hS]; exact ⟨x0, x1, x2, x3⟩
      refine wp_region_head 11 S (by rfl) (by kernel_rfl) ?_
      refine HT.take 0 (v := ?_) rfl (by kernel_rfl) (fun _ _ _ h => h) (Or.inl ⟨by rfl, ?_⟩) (by assumption) ?_
      rotate_left
      · intro W hSw; rw [← hS] at hSw; obtain ⟨x0, x1, x2, x3⟩ := (show W.cell? ⟨pb, po, none⟩ = some (.pointer p0) ∧ W.cell? ⟨pb, po + 1, none⟩ = some (.pointer p1) ∧ W.cell? ⟨pb, po + 2, none⟩ = some (.pointer p2) ∧ W.cell? ⟨pb, po + 3, none⟩ = some (.pointer p3) from hSw); go_simp; with_reducible rfl
      simp only [Act.put, List.setIfInBounds_toArray, List.set_cons_zero, List.set_cons_succ]
      refine HT.take 1 (v := ?_) rfl (by kernel_rfl) (fun _ _ _ h => h) (Or.inl ⟨by rfl, ?_⟩) (by assumption) ?_
      rotate_left
      · intro W hSw; rw [← hS] at hSw; obtain ⟨x0, x1, x2, x3⟩ := (show W.cell? ⟨pb, po, none⟩ = some (.pointer p0) ∧ W.cell? ⟨pb, po + 1, none⟩ = some (.pointer p1) ∧ W.cell? ⟨pb, po + 2, none⟩ = some (.pointer p2) ∧ W.cell? ⟨pb, po + 3, none⟩ = some (.pointer p3) from hSw); go_simp; with_reducible rfl
      simp only [Act.put, List.setIfInBounds_toArray, List.set_cons_zero, List.set_cons_succ]
      refine HT.take 2 (v := ?_) rfl (by kernel_rfl) (fun _ _ _ h => h) (Or.inl ⟨by rfl, ?_⟩) (by assumption) ?_
      rotate_left
      · intro W hSw; rw [← hS] at hSw; obtain ⟨x0, x1, x2, x3⟩ := (show W.cell? ⟨pb, po, none⟩ = some (.pointer p0) ∧ W.cell? ⟨pb, po + 1, none⟩ = some (.pointer p1) ∧ W.cell? ⟨pb, po + 2, none⟩ = some (.pointer p2) ∧ W.cell? ⟨pb, po + 3, none⟩ = some (.pointer p3) from hSw); go_simp; with_reducible rfl
      simp only [Act.put, List.setIfInBounds_toArray, List.set_cons_zero, List.set_cons_succ]
      refine HT.take 3 (v := ?_) rfl (by kernel_rfl) (fun _ _ _ h => h) (Or.inl ⟨by rfl, ?_⟩) (by assumption) ?_
      rotate_left
      · intro W hSw; rw [← hS] at hSw; obtain ⟨x0, x1, x2, x3⟩ := (show W.cell? ⟨pb, po, none⟩ = some (.pointer p0) ∧ W.cell? ⟨pb, po + 1, none⟩ = some (.pointer p1) ∧ W.cell? ⟨pb, po + 2, none⟩ = some (.pointer p2) ∧ W.cell? ⟨pb, po + 3, none⟩ = some (.pointer p3) from hSw); go_simp; with_reducible rfl
      simp only [Act.put, List.setIfInBounds_toArray, List.set_cons_zero, List.set_cons_succ]
      refine HT.take 4 (v := ?_) rfl (by kernel_rfl) (fun _ _ _ h => h) (Or.inl ⟨by rfl, ?_⟩) (by assumption) ?_
      rotate_left
      · intro W hSw; rw [← hS] at hSw; obtain ⟨x0, x1, x2, x3⟩ := (show W.cell? ⟨pb, po, none⟩ = some (.pointer p0) ∧ W.cell? ⟨pb, po + 1, none⟩ = some (.pointer p1) ∧ W.cell? ⟨pb, po + 2, none⟩ = some (.pointer p2) ∧ W.cell? ⟨pb, po + 3, none⟩ = some (.pointer p3) from hSw); go_simp; with_reducible rfl
      simp only [Act.put, List.setIfInBounds_toArray, List.set_cons_zero, List.set_cons_succ]
      refine HT.take 5 (v := ?_) rfl (by kernel_rfl) (fun _ _ _ h => h) (Or.inl ⟨by rfl, ?_⟩) (by assumption) ?_
      rotate_left
      · intro W hSw; rw [← hS] at hSw; obtain ⟨x0, x1, x2, x3⟩ := (show W.cell? ⟨pb, po, none⟩ = some (.pointer p0) ∧ W.cell? ⟨pb, po + 1, none⟩ = some (.pointer p1) ∧ W.cell? ⟨pb, po + 2, none⟩ = some (.pointer p2) ∧ W.cell? ⟨pb, po + 3, none⟩ = some (.pointer p3) from hSw); go_simp; with_reducible rfl
      simp only [Act.put, List.setIfInBounds_toArray, List.set_cons_zero, List.set_cons_succ]
      refine HT.one 6 rfl (by kernel_rfl) (by rfl) (fun K hK => ?_)
      go_simp
      refine Hc.out.mono ?_
      rintro en w2 ⟨hb2, hor⟩
      have hb2' : Below wr.heap.size wr w2 := below_drew' hb2
      have ec := (bcell hb2').1
      have hS1 : S w2 := by rw [← hS]; exact ⟨(ec _ _ hpb).trans x0, (ec _ _ hpb).trans x1, (ec _ _ hpb).trans x2, (ec _ _ hpb).trans x3⟩
      have Hb2 := hide (Hb.out.trans (hb2'.mono Hb.out.size))
      have Hb2' := hide hb2'
      clear hb2 hb2' ec Hc x0 x1 x2 x3
      rcases hor with ⟨i, k, hk, hk0, rfl⟩ | ⟨hh, rfl⟩
      · have hkm := List.mem_of_getElem? hk
        have hf := findK_of Hk.out.2.2.2.1 (fun k hk => (Hk.out.1 k hk).1) Hk.out.2.1 hkm hk0
        have hbf : hasB p s = hasB (x :: qt) k.2 := (Hr.out.trans Hk.out.2.2.2.2.1).trans (hasB_found (s := .mk m ks) hf)
        have hfin : SHInv w p s (.pointer (some ⟨G i, 0, none⟩)) (.slice (some ⟨pb, po + 4, none⟩) (x :: qt).length (c' - 1)) w2 :=
          ⟨x :: qt, k.2, G i, _, _, rfl, rfl, by simp, fun z hz => Hk.out.2.2.2.2.2.1 z (by simp [hz]), hbf, (Hk.out.1 k hkm).2, (Hk.out.2.2.1 i k hk).at_ Hb2'.out, Hk.out.2.2.2.2.2.2.at_ Hb2'.out, Hb2.out⟩
        have Hf := hide hfin
        clear hk hk0 hkm hf hfin hbf
        go_simp
        refine hK.out _ _ hS1 ?_
        clear hK
        refine HT.take 7 (v := ?_) rfl (by kernel_rfl) (fun _ _ _ h => h) (Or.inl ⟨by rfl, ?_⟩) (by assumption) ?_
        rotate_left
        · intro W hSw; go_simp; with_reducible rfl
        simp only [Act.put, List.setIfInBounds_toArray, List.set_cons_zero, List.set_cons_succ]
        refine HT.take 8 (v := ?_) rfl (by kernel_rfl) (fun _ _ _ h => h) (Or.inl ⟨by rfl, ?_⟩) (by assumption) ?_
        rotate_left
        · intro W hSw; go_simp; with_reducible rfl
        simp only [Act.put, List.setIfInBounds_toArray, List.set_cons_zero, List.set_cons_succ]
        refine HT.take 9 (v := ?_) rfl (by kernel_rfl) (fun _ _ _ h => h) (Or.inl ⟨by rfl, ?_⟩) (by assumption) ?_
        rotate_left
        · intro W hSw; go_simp; with_reducible rfl
        simp only [Act.put, List.setIfInBounds_toArray, List.set_cons_zero, List.set_cons_succ]
        refine HT.take 10 (v := ?_) rfl (by kernel_rfl) (fun _ _ _ h => h) (Or.inl ⟨by rfl, ?_⟩) (by assumption) ?_
        rotate_left
        · intro W hSw; go_simp; with_reducible rfl
        simp only [Act.put, List.setIfInBounds_toArray, List.set_cons_zero, List.set_cons_succ]
        refine HT.done (by kernel_rfl) ?_
        clear hS0 hS1 hS Hk
        rw [Hn.out] at Hf
        go_wp2_with fail
        exact ⟨Hf.out, by simp [sliceLen]; omega⟩
      · have e1 : r = false := by
          cases hf : findK e ks with
          | none => exact Hk.out.2.2.2.2.1.trans (hasB_none (s := .mk m ks) hf)
          | some t =>
            obtain ⟨k, hk, h0, -⟩ := findK_mem hf
            have := (hasC_iff E.ord_ Hk.out.2.2.2.1 (l := ks.map Prod.fst) (fun x hx => by obtain ⟨k, hk, rfl⟩ := List.mem_map.1 hx; exact (Hk.out.1 k hk).1) (keys_sorted Hk.out.2.1)).2 ⟨k.1, List.mem_map.2 ⟨k, hk, rfl⟩, h0⟩
            rw [this] at hh
            cases hh
        subst e1
        clear hh Hr
        go_simp
        refine hK.out _ _ hS1 ?_
        clear hK
        refine HT.take 7 (v := ?_) rfl (by kernel_rfl) (fun _ _ _ h => h) (Or.inl ⟨by rfl, ?_⟩) (by assumption) ?_
        rotate_left
        · intro W hSw; go_simp; with_reducible rfl
        simp only [Act.put, List.setIfInBounds_toArray, List.set_cons_zero, List.set_cons_succ]
        refine HT.take 8 (v := ?_) rfl (by kernel_rfl) (fun _ _ _ h => h) (Or.inl ⟨by rfl, ?_⟩) (by assumption) ?_
        rotate_left
        · intro W hSw; go_simp; with_reducible rfl
        simp only [Act.put, List.setIfInBounds_toArray, List.set_cons_zero, List.set_cons_succ]
        refine HT.take 9 (v := ?_) rfl (by kernel_rfl) (fun _ _ _ h => h) (Or.inl ⟨by rfl, ?_⟩) (by assumption) ?_
        rotate_left
        · intro W hSw; go_simp; with_reducible rfl
        simp only [Act.put, List.setIfInBounds_toArray, List.set_cons_zero, List.set_cons_succ]
        refine HT.take 10 (v := ?_) rfl (by kernel_rfl) (fun _ _ _ h => h) (Or.inl ⟨by rfl, ?_⟩) (by assumption) ?_
        rotate_left
        · intro W hSw; go_simp; with_reducible rfl
        simp only [Act.put, List.setIfInBounds_toArray, List.set_cons_zero, List.set_cons_succ]
        refine HT.done (by kernel_rfl) ?_
        clear hS0 hS1 hS Hk
        go_wp2
        go_ret
        exact ⟨rfl, Hb2.out⟩

end Go.Proofs.YtajeghkjppkhcaaGreat

/-!
  impl.SetHas.
-/

namespace Go.Proofs.YtajeghkjppkhcaaGreat
open Go.RowKit
attribute [local go_sem] run_store_float

set_option maxRecDepth 100000 in
set_option maxHeartbeats 4000000 in
theorem implSetHas_calls {ls : List (List REl)} {l : List REl} {A B : Option Addr} {c d : Nat} {w : World} (h : PathsAt (Old w) w ls A c) (hl : PathAt (Old w) w l B d) (hok : ∀ p ∈ pels ls, POk p) (hp : POk (pel l)) (hn : ls.length ≤ N38) :
    Calls Tryz.prog 39 #[.slice A ls.length c, .slice B l.length d] w (EqPost (hasB (pel l) (setP (pels ls))) w) := by
  have H := hide (toSet_calls h hok hn)
  have HP := hide fun (W : World) (hb : Below w.heap.size w W) => toPath_calls (hl.at_ hb)
  have Hw := hide (And.intro (setP_wf hok) hp)
  clear h hl hok hp hn
  have hpl := pel_length l
  generalize ls.length = n at *
  generalize setP (pels ls) = s at *
  generalize pel l = p at *
  rw [← hpl] at HP ⊢
  clear hpl
  go_enter Tryz.func39, Tryz.ntmps39
  go_wp2_with fail
  refine H.out.mono ?_
  intro e w1 hg
  obtain ⟨rfl, hr, hb⟩ := hg.read
  have Hr := hide (And.intro hr hb)
  clear hr hb hg H
  go_wp2_with fail
  refine (HP.out w1 Hr.out.2).mono ?_
  rintro e w2 ⟨A2, c2, rfl, hp2, hb2⟩
  have HH := hide (setHas_calls ((Hr.out.1.mono fun b hb => hb.2 : SetR (Old w1) w1 _ s).at_ hb2) Hw.out.1 (hp2.mono (G := Old w2) fun b hb => hb.2) Hw.out.2)
  have Hb := hide (Hr.out.2.trans (hb2.mono Hr.out.2.size))
  clear hp2 hb2 Hr HP Hw
  generalize hasB p s = v at *
  generalize p.length = k at *
  go_wp2_with fail
  refine HH.out.mono ?_
  rintro e w3 ⟨rfl, hb3⟩
  have Hb3 := hide (Hb.out.trans (hb3.mono Hb.out.size))
  clear hb3 HH
  go_wp2
  go_ret
  exact ⟨rfl, Hb3.out⟩

end Go.Proofs.YtajeghkjppkhcaaGreat
