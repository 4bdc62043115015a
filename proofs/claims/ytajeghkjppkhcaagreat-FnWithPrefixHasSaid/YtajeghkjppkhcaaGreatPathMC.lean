/-
  Several texts in one: PathM, PathCmp.
-/
import Derived.Test.YtajeghkjppkhcaaGreatPathA
import Derived.Test.YtajeghkjppkhcaaGreatFLTo
import Derived.Test.YtajeghkjppkhcaaGreatElemCI
import Derived.StillTailTactics
set_option linter.unusedVariables false
set_option linter.unusedSimpArgs false
/-!
  Paths in memory: the thin package's slices of steps, and the package's own; impl.toPath.
-/

namespace Go.Proofs.YtajeghkjppkhcaaGreat
open Go.RowKit
attribute [local go_sem] run_store_float

/-- a path of the thin package -/
def PathAt (F : Nat → Prop) (w : World) (l : List REl) (A : Option Addr) (c : Nat) : Prop := l.length * 168 ≤ R47 ∧ l.length ≤ c ∧ c ≤ maxLen ∧ ∃ xs, Row F w 11 A l.length xs ∧ Cells 11 (ElemAt F w) l xs
/-- a path of the package -/
def PPathAt (F : Nat → Prop) (w : World) (p : List E) (A : Option Addr) (c : Nat) : Prop := p.length * 32 ≤ R47 ∧ p.length ≤ c ∧ c ≤ maxLen ∧ ∃ xs, Row F w 4 A p.length xs ∧ Cells 4 (PEAt F w) p xs
/-- paths of the thin package -/
def PathsAt (F : Nat → Prop) (w : World) (ls : List (List REl)) (A : Option Addr) (c : Nat) : Prop := ls.length * 24 ≤ R47 ∧ ls.length ≤ c ∧ c ≤ maxLen ∧ ∃ xs, Row F w 1 A ls.length xs ∧ Cells 1 (fun l cs => ∃ A c, cs = [.slice A l.length c] ∧ PathAt F w l A c) ls xs
/-- the path that a slice of steps stands for -/
def pel (l : List REl) : List E := l.map REl.elem
theorem pel_length (l : List REl) : (pel l).length = l.length := by simp [pel]
section
variable {F G : Nat → Prop} {w w' : World} {A : Option Addr} {c : Nat}
theorem PathAt.keeps {l : List REl} (h : PathAt F w l A c) (k : Keeps F w w') : PathAt F w' l A c := by
  obtain ⟨h1, h2, h3, xs, h4, h5⟩ := h
  exact ⟨h1, h2, h3, xs, h4.keeps k, h5.mono fun _ _ h => h.keeps k⟩
theorem PathAt.mono {l : List REl} (h : PathAt F w l A c) (k : ∀ b, F b → G b) : PathAt G w l A c := by
  obtain ⟨h1, h2, h3, xs, h4, h5⟩ := h
  exact ⟨h1, h2, h3, xs, h4.mono k, h5.mono fun _ _ h => h.mono k⟩
theorem PathAt.at_ {l : List REl} (h : PathAt (Old w) w l A c) (hb : Below w.heap.size w w') : PathAt (Old w') w' l A c := (h.keeps (Keeps.below hb fun _ h => h)).mono fun _ h => Nat.lt_of_lt_of_le h hb.size
theorem PPathAt.keeps {p : List E} (h : PPathAt F w p A c) (k : Keeps F w w') : PPathAt F w' p A c := by
  obtain ⟨h1, h2, h3, xs, h4, h5⟩ := h
  exact ⟨h1, h2, h3, xs, h4.keeps k, h5.mono fun _ _ h => h.keeps k⟩
theorem PPathAt.mono {p : List E} (h : PPathAt F w p A c) (k : ∀ b, F b → G b) : PPathAt G w p A c := by
  obtain ⟨h1, h2, h3, xs, h4, h5⟩ := h
  exact ⟨h1, h2, h3, xs, h4.mono k, h5.mono fun _ _ h => h.mono k⟩
theorem PPathAt.at_ {p : List E} (h : PPathAt (Old w) w p A c) (hb : Below w.heap.size w w') : PPathAt (Old w') w' p A c := (h.keeps (Keeps.below hb fun _ h => h)).mono fun _ h => Nat.lt_of_lt_of_le h hb.size
theorem PathsAt.keeps {ls : List (List REl)} (h : PathsAt F w ls A c) (k : Keeps F w w') : PathsAt F w' ls A c := by
  obtain ⟨h1, h2, h3, xs, h4, h5⟩ := h
  exact ⟨h1, h2, h3, xs, h4.keeps k, h5.mono fun _ _ ⟨A, c, e, h⟩ => ⟨A, c, e, h.keeps k⟩⟩
theorem PathsAt.mono {ls : List (List REl)} (h : PathsAt F w ls A c) (k : ∀ b, F b → G b) : PathsAt G w ls A c := by
  obtain ⟨h1, h2, h3, xs, h4, h5⟩ := h
  exact ⟨h1, h2, h3, xs, h4.mono k, h5.mono fun _ _ ⟨A, c, e, h⟩ => ⟨A, c, e, h.mono k⟩⟩
theorem PathsAt.at_ {ls : List (List REl)} (h : PathsAt (Old w) w ls A c) (hb : Below w.heap.size w w') : PathsAt (Old w') w' ls A c := (h.keeps (Keeps.below hb fun _ h => h)).mono fun _ h => Nat.lt_of_lt_of_le h hb.size
end

section
variable {F : Nat → Prop} {w : World}
theorem Row.of_bkp {g n size : Nat} {cs : List Value} {t : TypeId} (h : Bk w g t cs.toArray) (hl : cs.length = n * size) (hF : F g) : Row F w size (some ⟨g, 0, none⟩) n cs :=
  ⟨hl, fun _ => ⟨g, 0, rfl, hF, fun j u hu => by rw [Nat.zero_add, h.cell]; simpa using hu⟩⟩
end

/-- a struct appended to a row of structs -/
theorem cells_stepp {α : Type} {n m B : Nat} {e : TypeId} {Q : (Nat → Prop) → World → α → List Value → Prop} (qk : ∀ {F : Nat → Prop} {w w' : World} {a : α} {cs : List Value}, Q F w a cs → Keeps F w w' → Q F w' a cs) (qm : ∀ {F G : Nat → Prop} {w : World} {a : α} {cs : List Value}, Q F w a cs → (∀ b, F b → G b) → Q G w a cs)
    {wr w1 w2 : World} {L : List α} {a : α} {out out' : Value} {us cs : List Value} {o2 : Obj} (hown : wr.ownsRow B e n out m us) (hus : Cells n (Q (FrX B wr out) wr) L us) (hB : B ≤ wr.heap.size)
    (hv : Q (Fr wr.heap.size w1) w1 a cs) (hl : cs.length = n) (hb1 : Below wr.heap.size wr w1) (hg2 : (w1.alloc o2).grownBy w2 out.ownBlock) (hat : out'.ownBlock = out.ownBlock ∨ out'.ownBlock = some (w1.alloc o2).heap.size) :
    Cells n (Q (FrX B w2 out') w2) (L ++ [a]) (us ++ cs) ∧ B ≤ w2.heap.size := by
  have s1 := hb1.size
  have s2 := hg2.size
  simp only [World.size_alloc] at s2
  have hlt := hown.lt
  have k2 : Keeps (FrX B wr out) wr w2 := by
    rintro b ⟨q1, q2, q3⟩
    rw [hg2.block b (by simp only [World.size_alloc]; omega) q3, Below.heap_alloc _ _ _ (by omega), hb1.block b q2]
  have g2 : ∀ b, FrX B wr out b → FrX B w2 out' b := by
    rintro b ⟨q1, q2, q3⟩
    refine ⟨q1, by omega, ?_⟩
    rcases hat with e | e <;> rw [e]
    · exact q3
    · simp only [World.size_alloc, ne_eq, Option.some.injEq]; omega
  have k3 : Keeps (Fr wr.heap.size w1) w1 w2 := by
    rintro b ⟨q1, q2⟩
    rw [hg2.block b (by simp only [World.size_alloc]; omega) (fun e => by have := (hlt b e.symm).2; omega), Below.heap_alloc _ _ _ q2]
  have g3 : ∀ b, Fr wr.heap.size w1 b → FrX B w2 out' b := by
    rintro b ⟨q1, q2⟩
    refine ⟨by omega, by omega, ?_⟩
    rcases hat with e | e <;> rw [e]
    · intro e'; have := (hlt b e'.symm).2; omega
    · simp only [World.size_alloc, ne_eq, Option.some.injEq]; omega
  exact ⟨(hus.mono fun a cs h => qm (qk h k2) g2).append (Cells.one (qm (qk hv k3) g3) hl), by omega⟩


/-- a path of the package handed back; its memory is new -/
def GivesPP (p : List E) (w : World) (e : Ending) (w' : World) : Prop := ∃ A c, e = .returned (.slice A p.length c) ∧ PPathAt (Fr w.heap.size w') w' p A c ∧ Below w.heap.size w w'

theorem pe_info : (Tryz.prog.info? 96).map (fun i => (i.zero, i.size, i.bytes)) = some (some (.agg #[.pointer none, .pointer none, .pointer none, .pointer none]), 4, 32) := by kernel_rfl

/-- at the head of a round of toPath -/
def TPInv (w : World) (p : List E) (s3 s9 : Value) (W : World) : Prop :=
  ∃ (k : Nat) (us : List Value), s9 = .int .i64 (k : Int) ∧ k ≤ p.length ∧ W.ownsRow w.heap.size 96 4 s3 k us ∧ Cells 4 (PEAt (FrX w.heap.size W s3) W) (p.take k) us ∧ Below w.heap.size w W

set_option maxRecDepth 100000 in
set_option maxHeartbeats 4000000 in
theorem toPath_calls {l : List REl} {A : Option Addr} {c : Nat} {w : World} (h : PathAt (Old w) w l A c) : Calls Tryz.prog 78 #[.slice A l.length c] w (GivesPP (pel l) w) := by
  obtain ⟨h1, h2, h3, xs, h4, h5⟩ := h
  have h1' : l.length * 168 ≤ 140737488351232 := h1
  have H7 := hide (And.intro h4 h5)
  obtain ⟨i9, hi9, hz9, hs9, hb9⟩ := info_parts pe_info
  clear h1 h4 h5
  go_enter Tryz.func78, Tryz.ntmps78
  go_wp2_with fail
  have hb0 : Below w.heap.size w (w.alloc (.cells #[] 96)) := (Below.refl _ _).alloc (Nat.le_refl _) _
  have hown0 := World.ownsRow_lit (base := w.heap.size) (e := 96) (size := 4) w #[] 0 (by simp) (by simp [maxLen]) (by simp)
  have H0 := hide (And.intro hb0 hown0)
  clear hb0 hown0
  go_loopw [3, 9] (fun s3 s9 W => TPInv w (pel l) s3 s9 W) (fun _ s _ => l.length - (intOf s).toNat)
  case atStart => exact ⟨0, [], rfl, Nat.zero_le _, H0.out.2, Cells.nil_, H0.out.1⟩
  case round =>
    obtain ⟨k, us, rfl, hk, hown, hus, hb⟩ := hrel
    rw [pel_length] at hk
    by_cases hlt : k < l.length
    · have hki0 : (0 : Int) ≤ (k : Int) := Int.natCast_nonneg _
      have hki1 : (k : Int) < (l.length : Int) := by omega
      have hx := H7.out.2.at_ hlt
      have hsn : (pel l).take (k + 1) = (pel l).take k ++ [(l[k]).elem] := by rw [List.take_succ_eq_append_getElem (by rw [pel_length]; exact hlt)]; simp [pel]
      generalize l[k] = fx at *
      generalize hcs : (xs.drop (k * 11)).take 11 = fcs at hx
      obtain ⟨a0, a1, a2, a3, a4, a5, a6, a7, a8, a9, aa, ab, ac, ad, ae, af, ag, ah, ai, rfl⟩ := hx.form
      obtain ⟨rb, ro, rfl, hF, hc⟩ := rown_at H7.out.1 hlt hcs
      have ec := (bcell hb).1
      have q0 := (ec _ _ hF).trans (hc 0 _ rfl)
      have q1 := (ec _ _ hF).trans (hc 1 _ rfl)
      have q2 := (ec _ _ hF).trans (hc 2 _ rfl)
      have q3 := (ec _ _ hF).trans (hc 3 _ rfl)
      have q4 := (ec _ _ hF).trans (hc 4 _ rfl)
      have q5 := (ec _ _ hF).trans (hc 5 _ rfl)
      have q6 := (ec _ _ hF).trans (hc 6 _ rfl)
      have q7 := (ec _ _ hF).trans (hc 7 _ rfl)
      have q8 := (ec _ _ hF).trans (hc 8 _ rfl)
      have q9 := (ec _ _ hF).trans (hc 9 _ rfl)
      have q10 := (ec _ _ hF).trans (hc 10 _ rfl)
      rw [Nat.add_zero] at q0
      have hrb : rb < w.heap.size := hF
      have HE := hide fun (W : World) (hb : Below w.heap.size w W) => toElem_calls fx W _ (hx.at_ hb)
      have Hq := hide (And.intro hown (And.intro hus (And.intro hb hsn)))
      clear hown hus hb hsn hx hcs hc ec hF
      go_wp2_with fail
      have hbA : Below wr.heap.size wr (wr.alloc (.cells #[.int .i64 a0, .string a1, .slice a2 a3 a4, .slice a5 a6 a7, .int .i64 a8, .int .i64 a9, .float .f64 aa, .string ab, .slice ac ad ae, .slice af ag ah, .int .i64 ai] 33)) := (Below.refl _ _).alloc (Nat.le_refl _) _
      have hbw := Hq.out.2.2.1.trans (hbA.mono Hq.out.2.2.1.size)
      refine (HE.out _ hbw).mono ?_
      rintro e w1 ⟨ps, rfl, hp, hb1⟩
      obtain ⟨p0, p1, p2, p3, rfl⟩ := hp.form
      have hp' : PEAt (Fr wr.heap.size w1) w1 fx.elem [.pointer p0, .pointer p1, .pointer p2, .pointer p3] := hp.mono fun b hb => ⟨by have := hb.1; rw [World.size_alloc] at this; omega, hb.2⟩
      have hb1' : Below wr.heap.size wr w1 := hbA.trans (hb1.mono hbA.size)
      have H1 := hide (And.intro hp' hb1')
      have hs0 : w.heap.size ≤ w1.heap.size := (Hq.out.2.2.1.trans (hb1'.mono Hq.out.2.2.1.size)).size
      clear hp hp' hb1 hb1' hbA hbw q0 q1 q2 q3 q4 q5 q6 q7 q8 q9 q10 HE
      obtain ⟨oA, oc, rfl, _, _⟩ := own_form Hq.out.1
      go_wp2_with (at_builtin; go_loud (refine wpList_append_row _ rfl (.tmp 13) (.tmp 16) 125 rfl w.heap.size 96 i9 _ 4 32 Tryz.underlying125 hi9 hz9 hs9 hb9 rfl (by omega) _ k us rfl ((ownsRow_below Hq.out.1 H1.out.2 (Nat.le_refl _)).alloc _) (fun _ => True) (some ⟨w1.heap.size, 0, none⟩) 1 1 [.pointer p0, .pointer p1, .pointer p2, .pointer p3] rfl (Row.of_bkp (Bk.new w1 96 [.pointer p0, .pointer p1, .pointer p2, .pointer p3].toArray) rfl trivial) (by simp [Value.oneCell']) (by omega) (by omega) (by rw [World.size_alloc]; omega) ?_))
      intro out' w2 hown2 hg2 hat2
      have hcs := cells_stepp (Q := fun F w a cs => PEAt F w a cs) (a := fx.elem) (fun h k => h.keeps k) (fun h k => h.mono k) Hq.out.1 Hq.out.2.1 Hq.out.2.2.1.size H1.out.1 rfl H1.out.2 hg2 (by rw [World.size_alloc]; exact hat2)
      have hlo := Hq.out.1.lt
      have hbf : Below w.heap.size w w2 := ((Hq.out.2.2.1.trans (H1.out.2.mono Hq.out.2.2.1.size)).alloc hs0 _).grown hg2 (by rw [World.size_alloc]; omega) fun k e => (hlo k e).1
      have Hfin := hide (And.intro hown2 (And.intro hcs (And.intro hbf Hq.out.2.2.2)))
      obtain ⟨nA, nc, rfl, _, _⟩ := own_form hown2
      clear hown2 hg2 hat2 hcs hlo hbf H1 Hq hs0
      go_wp2_with fail
      exact ⟨⟨k + 1, _, by go_num, by rw [pel_length]; omega, Hfin.out.1, by rw [Hfin.out.2.2.2]; exact Hfin.out.2.1.1, Hfin.out.2.2.1⟩, by simp [intOf]; omega⟩
    · have hke : k = l.length := by omega
      subst hke
      have hki1 : ¬ ((l.length : Nat) : Int) < (l.length : Int) := by omega
      rw [List.take_of_length_le (by rw [pel_length]; omega)] at hus
      obtain ⟨oA, oc, rfl, hc1, hc2⟩ := own_form hown
      have hlt := hown.lt
      have hfin : PPathAt (Fr w.heap.size wr) wr (pel l) oA oc := ⟨by rw [pel_length]; unfold R47; omega, by rw [pel_length]; exact hc1, hc2, us, by rw [pel_length]; exact Row.of_own hown hlt, hus.mono fun a cs h => h.mono fun b hb => ⟨hb.1, hb.2.1⟩⟩
      have H3 := hide (And.intro hb hfin)
      have Hlm := hide (pel_length l)
      clear hb hown hus hlt hc1 hc2 hfin
      go_wp2
      go_ret
      exact ⟨oA, oc, by rw [Hlm.out]; rfl, H3.out.2, H3.out.1⟩

end Go.Proofs.YtajeghkjppkhcaaGreat

/-!
  Path.Compare, Path.Equals; impl.ComparePaths, impl.EqualPaths.
-/

namespace Go.Proofs.YtajeghkjppkhcaaGreat
open Go.RowKit
attribute [local go_sem] run_store_float

/-- at the head of a round of Path.Equals -/
def PQInv (w : World) (p q : List E) (s : Value) (W : World) : Prop := ∃ k : Nat, s = .int .i64 (k : Int) ∧ k ≤ p.length ∧ peqv p q = peqv (p.drop k) (q.drop k) ∧ Below w.heap.size w W
theorem peqv_len : ∀ {p q : List E}, p.length ≠ q.length → peqv p q = false
  | [], [], h => absurd rfl h
  | [], _ :: _, _ => rfl
  | _ :: _, [], _ => rfl
  | a :: p, b :: q, h => by rw [peqv, peqv_len (fun e => h (by simp [e])), Bool.and_false]
theorem peqv_round {p q : List E} {k : Nat} (h : peqv p q = peqv (p.drop k) (q.drop k)) (h1 : k < p.length) (h2 : k < q.length) : (E.eqv p[k] q[k] = true → peqv p q = peqv (p.drop (k + 1)) (q.drop (k + 1))) ∧ (E.eqv p[k] q[k] = false → peqv p q = false) := by
  rw [h, List.drop_eq_getElem_cons h1, List.drop_eq_getElem_cons h2, peqv]
  exact ⟨fun e => by rw [e, Bool.true_and], fun e => by rw [e, Bool.false_and]⟩

end Go.Proofs.YtajeghkjppkhcaaGreat
