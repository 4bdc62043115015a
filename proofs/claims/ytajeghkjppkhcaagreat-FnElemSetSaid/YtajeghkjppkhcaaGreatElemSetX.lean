/-
  Several texts in one: ElemSetTo, ElemSetIt, ElemSetFrom.
-/
import Derived.Test.YtajeghkjppkhcaaGreatElemSetM
import Derived.Test.YtajeghkjppkhcaaGreatPathM
import Derived.Test.YtajeghkjppkhcaaGreatFromElem
set_option linter.unusedVariables false
set_option linter.unusedSimpArgs false
/-!
  impl.toElemSet; PathElementSet.Size.
-/

namespace Go.Proofs.YtajeghkjppkhcaaGreat
open Go.RowKit
attribute [local go_sem] run_store_float

/-- the set of a list of steps -/
def setE (l : List E) : List E := l.foldl (fun a e => insC E.cmp e a) []
theorem setE_snoc (l : List E) (e : E) : setE (l ++ [e]) = insC E.cmp e (setE l) := by simp [setE]
theorem foldE_ok {l : List E} (h : POk l) (a : List E) (ha : POk a) (hs : SortC E.cmp a) : POk (l.foldl (fun a e => insC E.cmp e a) a) ∧ SortC E.cmp (l.foldl (fun a e => insC E.cmp e a) a) ∧ (l.foldl (fun a e => insC E.cmp e a) a).length ≤ a.length + l.length := by
  induction l generalizing a with
  | nil => exact ⟨ha, hs, by simp⟩
  | cons e l ih =>
    have he : e.Ok := h e (by simp)
    obtain ⟨h1, h2, h3⟩ := ih (fun x hx => h x (List.mem_cons_of_mem _ hx)) (insC E.cmp e a) (insC_ok he ha) (insC_sorted E.ord_ he ha hs)
    have := insC_length (c := E.cmp) e a
    exact ⟨h1, h2, by rw [List.foldl_cons, List.length_cons]; omega⟩
theorem setE_ok {l : List E} (h : POk l) : POk (setE l) ∧ SortC E.cmp (setE l) ∧ (setE l).length ≤ l.length := by
  have := foldE_ok h [] (fun x hx => by simp at hx) (by simp [SortC])
  simpa [setE] using this

/-- new memory beside a set's block and its row -/
def FrE (B : Nat) (W : World) (s : Value) (b : Nat) : Prop := B < b ∧ b < W.heap.size ∧ s.ownBlock ≠ some b
/-- a set that was made; its memory is new -/
def GivesES (p : List E) (w : World) (en : Ending) (w' : World) : Prop := ∃ s xs, en = .returned (.pointer (some ⟨w.heap.size, 0, none⟩)) ∧ ESet (FrE w.heap.size w' s) w' w.heap.size (setE p) s xs ∧ (∀ b, s.ownBlock = some b → w.heap.size < b) ∧ Below w.heap.size w w'
/-- at the head of a round of toElemSet -/
def TEInv (w : World) (p : List E) (s10 : Value) (W : World) : Prop :=
  ∃ (k : Nat) (s : Value) (xs : List Value), s10 = .int .i64 (k : Int) ∧ k ≤ p.length ∧ ESet (FrE w.heap.size W s) W w.heap.size (setE (p.take k)) s xs ∧ (∀ b, s.ownBlock = some b → w.heap.size < b) ∧ Below w.heap.size w W

theorem ESet.mono {F G : Nat → Prop} {w : World} {g : Nat} {l : List E} {s : Value} {xs : List Value} (h : ESet F w g l s xs) (k : ∀ b, F b → G b) : ESet G w g l s xs := ⟨h.bk, h.own, h.at_.mono fun _ _ h => h.mono k, h.sep⟩
theorem ESet.below {F : Nat → Prop} {w w' : World} {g : Nat} {l : List E} {s : Value} {xs : List Value} (h : ESet F w g l s xs) (hF : ∀ b, F b → b < w.heap.size) (hb : Below w.heap.size w w') : ESet F w' g l s xs :=
  ⟨h.bk.below hb h.bk.lt, ownsRow_below h.own hb (Nat.le_refl _), h.at_.mono fun _ _ h => h.keeps (Keeps.below hb hF), h.sep⟩

set_option maxRecDepth 100000 in
set_option maxHeartbeats 4000000 in
theorem toElemSet_calls {l : List REl} {A : Option Addr} {c : Nat} {w : World} (h : PathAt (Old w) w l A c) (hok : POk (pel l)) : Calls Tryz.prog 54 #[.slice A l.length c] w (GivesES (pel l) w) := by
  obtain ⟨h1, h2, h3, xs, h4, h5⟩ := h
  have h1' : l.length * 168 ≤ 140737488351232 := h1
  have H7 := hide (And.intro h4 h5)
  have Hok := hide hok
  clear h1 h4 h5 hok
  go_enter Tryz.func54, Tryz.ntmps54
  go_wp2_with fail
  have hb0 : Below w.heap.size w (w.alloc (.cells #[.slice none 0 0] 116)) := (Below.refl _ _).alloc (Nat.le_refl _) _
  have hes0 : ESet (FrE w.heap.size (w.alloc (.cells #[.slice none 0 0] 116)) (.slice none 0 0)) (w.alloc (.cells #[.slice none 0 0] 116)) w.heap.size (setE ((pel l).take 0)) (.slice none 0 0) [] :=
    ⟨Bk.new _ _ _, by rw [List.take_zero]; exact World.ownsRow_nil _ _ _ _, by rw [List.take_zero]; exact Cells.nil_, by simp [Value.ownBlock]⟩
  have H0 := hide (And.intro hb0 hes0)
  clear hb0 hes0
  go_loopw [10] (fun s10 W => TEInv w (pel l) s10 W) (fun s _ => l.length - (intOf s).toNat)
  case atStart => exact ⟨0, _, [], rfl, Nat.zero_le _, H0.out.2, by simp [Value.ownBlock], H0.out.1⟩
  case round =>
    obtain ⟨k, s, us, rfl, hk, hes, hsB, hb⟩ := hrel
    rw [pel_length] at hk
    by_cases hlt : k < l.length
    · have hki0 : (0 : Int) ≤ (k : Int) := Int.natCast_nonneg _
      have hki1 : (k : Int) < (l.length : Int) := by omega
      have hx := H7.out.2.at_ hlt
      have hsn : (pel l).take (k + 1) = (pel l).take k ++ [(l[k]).elem] := by rw [List.take_succ_eq_append_getElem (by rw [pel_length]; exact hlt)]; simp [pel]
      have heo : (l[k]).elem.Ok := Hok.out _ (by simp [pel]; exact ⟨_, List.getElem_mem _, rfl⟩)
      generalize l[k] = fx at *
      generalize hcs : (xs.drop (k * 11)).take 11 = fcs at hx
      obtain ⟨a0, a1, a2, a3, a4, a5, a6, a7, a8, a9, aa, ab, ac, ad, ae, af, ag, ah, ai, rfl⟩ := hx.form
      obtain ⟨rb, ro, rfl, hF, hc⟩ := rown_at H7.out.1 hlt hcs
      have ec := (bcell hb).1
      have q0 := (ec _ _ hF).trans (hc 0 _ rfl)
      have q1 := (ec _ _ hF).trans (hc 1 _ rfl)
      have q2 := (ec _ _ hF).trans (hc 2 _ rfl)
      have q3 := (ec _ _ hF).trans (hc 3 _ rfl)
      have q4 := (ec _ _ hF).trans (hc 4 _ rfl)
      have q5 := (ec _ _ hF).trans (hc 5 _ rfl)
      have q6 := (ec _ _ hF).trans (hc 6 _ rfl)
      have q7 := (ec _ _ hF).trans (hc 7 _ rfl)
      have q8 := (ec _ _ hF).trans (hc 8 _ rfl)
      have q9 := (ec _ _ hF).trans (hc 9 _ rfl)
      have q10 := (ec _ _ hF).trans (hc 10 _ rfl)
      rw [Nat.add_zero] at q0
      have hrb : rb < w.heap.size := hF
      have hgw := hes.bk.lt
      have hslt := hes.own.lt
      have hpk := setE_ok (l := (pel l).take k) fun x hx => Hok.out x (List.mem_of_mem_take hx)
      have hlk : (setE ((pel l).take k)).length ≤ l.length := by have := hpk.2.2; rw [List.length_take, pel_length] at this; omega
      have HE := hide fun (W : World) (hb : Below w.heap.size w W) => toElem_calls fx W _ (hx.at_ hb)
      have Hq := hide (And.intro hes (And.intro hsB (And.intro hb (And.intro hsn (And.intro heo (And.intro hpk hslt))))))
      clear hes hsB hb hsn heo hx hcs hc ec hF hpk hslt
      go_wp2_with fail
      have hbA : Below wr.heap.size wr (wr.alloc (.cells #[.int .i64 a0, .string a1, .slice a2 a3 a4, .slice a5 a6 a7, .int .i64 a8, .int .i64 a9, .float .f64 aa, .string ab, .slice ac ad ae, .slice af ag ah, .int .i64 ai] 33)) := (Below.refl _ _).alloc (Nat.le_refl _) _
      have hbw := Hq.out.2.2.1.trans (hbA.mono Hq.out.2.2.1.size)
      refine (HE.out _ hbw).mono ?_
      rintro e w1 ⟨ps, rfl, hp, hb1⟩
      obtain ⟨p0, p1, p2, p3, rfl⟩ := hp.form
      have hb1' : Below wr.heap.size wr w1 := hbA.trans (hb1.mono hbA.size)
      have hs0 : wr.heap.size ≤ w1.heap.size := hb1'.size
      have hp' : PEAt (FrE w.heap.size w1 s) w1 fx.elem [.pointer p0, .pointer p1, .pointer p2, .pointer p3] := hp.mono fun b hb => by
        have h1 := hb.1
        rw [World.size_alloc] at h1
        exact ⟨by omega, hb.2, fun e => by have := (Hq.out.2.2.2.2.2.2 _ e).2; omega⟩
      have hes1 : ESet (FrE w.heap.size w1 s) w1 w.heap.size (setE ((pel l).take k)) s us := (Hq.out.1.below (fun b hb => hb.2.1) hb1').mono fun b hb => ⟨hb.1, by have := hb.2.1; omega, hb.2.2⟩
      have HI := hide (esInsert_calls hes1 (fun b hb => ⟨hb.2.1, by have := hb.1; omega, hb.2.2⟩) hp' Hq.out.2.2.2.2.2.1.1 Hq.out.2.2.2.2.1 Hq.out.2.2.2.2.2.1.2.1 (by unfold R47; omega))
      have H1 := hide hb1'
      clear hp hp' hb1 hb1' hbA hbw q0 q1 q2 q3 q4 q5 q6 q7 q8 q9 q10 HE hes1
      go_wp2_with fail
      refine HI.out.mono ?_
      rintro en w2 ⟨rfl, s', us', hes2, hblk, hG⟩
      have hs1 := hG.size
      have hsB' : ∀ b, s'.ownBlock = some b → w.heap.size < b := by
        intro b hb
        rcases hblk with e | ⟨b', e, hb'⟩
        · exact Hq.out.2.1 b (by rw [← e]; exact hb)
        · rw [e] at hb; cases hb; omega
      have hes3 : ESet (FrE w.heap.size w2 s') w2 w.heap.size (setE ((pel l).take (k + 1))) s' us' := by
        rw [Hq.out.2.2.2.1, setE_snoc]
        refine hes2.mono fun b hb => ⟨hb.1, by have := hb.2.1; omega, ?_⟩
        rcases hblk with e | ⟨b', e, hb'⟩
        · rw [e]; exact hb.2.2
        · rw [e]; intro e2; cases e2; have := hb.2.1; omega
      have hbf : Below w.heap.size w w2 := by
        have hw1 := Hq.out.2.2.1.trans (H1.out.mono Hq.out.2.2.1.size)
        refine ⟨hG.os.trans hw1.os, hG.tape.trans hw1.tape, hG.output.trans hw1.output, Nat.le_trans hw1.size hG.size, fun b hb => ?_⟩
        rw [hG.block b (by omega) (by omega) (fun e => by have := Hq.out.2.1 b e.symm; omega)]
        exact hw1.block b hb
      have Hfin := hide (And.intro hes3 (And.intro hsB' hbf))
      clear hes2 hblk hG hsB' hes3 hbf
      go_wp2_with fail
      exact ⟨⟨k + 1, s', us', by go_num, by rw [pel_length]; omega, Hfin.out.1, Hfin.out.2.1, Hfin.out.2.2⟩, by simp [intOf]; omega⟩
    · have hke : k = l.length := by omega
      subst hke
      have hki1 : ¬ ((l.length : Nat) : Int) < (l.length : Int) := by omega
      rw [List.take_of_length_le (by rw [pel_length]; omega)] at hes
      have H3 := hide (And.intro hes (And.intro hsB hb))
      clear hb hes hsB hlt
      go_wp2
      go_returns
      exact ⟨s, us, rfl, H3.out.1, H3.out.2.1, H3.out.2.2⟩

theorem esSizeC_calls {w : World} {g o n c : Nat} {A : Option Addr} (m0 : w.cell? ⟨g, o, none⟩ = some (.slice A n c)) : Calls Tryz.prog 58 #[.pointer (some ⟨g, o, none⟩)] w (fun en w' => en = .returned (.int .i64 (n : Int)) ∧ w' = w) := by
  go_enter Tryz.func58, Tryz.ntmps58
  go_wp2
  go_ret
  exact ⟨rfl, rfl⟩
theorem esSize_calls {F : Nat → Prop} {w : World} {g : Nat} {l : List E} {s : Value} {xs : List Value} (h : ESet F w g l s xs) : Calls Tryz.prog 58 #[.pointer (some ⟨g, 0, none⟩)] w (fun en w' => en = .returned (.int .i64 (l.length : Int)) ∧ w' = w) := by
  obtain ⟨A, c, rfl, _, _⟩ := own_form h.own
  have m0 := h.bk.cell 0
  simp at m0
  exact esSizeC_calls m0

set_option maxRecDepth 100000 in
theorem implElemSetSize_calls {l : List REl} {A : Option Addr} {c : Nat} {w : World} (h : PathAt (Old w) w l A c) (hok : POk (pel l)) : Calls Tryz.prog 19 #[.slice A l.length c] w (fun en w' => en = .returned (.int .i64 ((setE (pel l)).length : Int)) ∧ Below w.heap.size w w') := by
  have H := hide (toElemSet_calls h hok)
  clear h hok
  go_enter Tryz.func19, Tryz.ntmps19
  go_wp2_with fail
  refine H.out.mono ?_
  rintro e w1 ⟨s, xs, rfl, hes, _, hb⟩
  have H1 := hide hb
  have H2 := hide (esSize_calls hes)
  clear hb hes
  go_wp2_with fail
  refine H2.out.mono ?_
  rintro e w2 ⟨rfl, rfl⟩
  go_wp2
  go_ret
  exact ⟨rfl, H1.out⟩

end Go.Proofs.YtajeghkjppkhcaaGreat

/-!
  PathElementSet.Iterate, generic in the closure.
-/

namespace Go.Proofs.YtajeghkjppkhcaaGreat
open Go.RowKit
attribute [local go_sem] run_store_float

set_option maxRecDepth 100000 in
set_option maxHeartbeats 4000000 in
/-- F: where the row lies; J: what the closure has done for the steps up to now -/
theorem esIterate_calls {F : Nat → Prop} {l : List E} {A : Option Addr} {c g o : Nat} {w : World} {xs : List Value} {Q : E → List Value → Prop} (m0 : w.cell? ⟨g, o, none⟩ = some (.slice A l.length c)) (hl47 : l.length * 32 ≤ R47) (hr : Row F w 4 A l.length xs) (hx : Cells 4 Q l xs) (hQl : ∀ a cs, Q a cs → ∃ p0 p1 p2 p3 : Option Addr, cs = [.pointer p0, .pointer p1, .pointer p2, .pointer p3])
    (f : FuncId) (cap : Array Value) (hcf : ∀ (args : Array Value) (W : World), (callFunc f args).run Tryz.prog W = .ok (.enter f args) W) (J : List E → World → Prop) (hJ0 : J [] w) (hJk : ∀ vis W, J vis W → Keeps F w W) (hJa : ∀ vis W o, J vis W → J vis (W.alloc o))
    (hstep : ∀ (k : Nat) a cs W, l[k]? = some a → Q a cs → J (l.take k) W → Calls Tryz.prog f (#[.agg cs.toArray] ++ cap) W fun e W' => e = .returned (.tuple #[]) ∧ J (l.take (k + 1)) W') :
    Calls Tryz.prog 97 #[.pointer (some ⟨g, o, none⟩), .func (.func f) #[] cap] w fun e w' => e = .returned (.tuple #[]) ∧ J l w' := by
  have hl47' : l.length * 32 ≤ 140737488351232 := hl47
  have H7 := hide (And.intro hr hx)
  have HJ := hide (And.intro hJ0 (And.intro hJk (And.intro hJa (And.intro hstep hQl))))
  clear hl47 hr hx hQl hJ0 hJk hJa hstep
  go_enter Tryz.func97, Tryz.ntmps97
  go_wp2_with fail
  go_loopw [11] (fun s11 W => ∃ k : Nat, s11 = .int .i64 (k : Int) ∧ k ≤ l.length ∧ J (l.take k) W) (fun s _ => l.length - (intOf s).toNat)
  case atStart => exact ⟨0, rfl, Nat.zero_le _, by simpa using HJ.out.1⟩
  case round =>
    obtain ⟨k, rfl, hk, hJ⟩ := hrel
    by_cases hlt : k < l.length
    · have hki0 : (0 : Int) ≤ (k : Int) := Int.natCast_nonneg _
      have hki1 : (k : Int) < (l.length : Int) := by omega
      have hx := H7.out.2.at_ hlt
      have hlk : l[k]? = some l[k] := List.getElem?_eq_getElem hlt
      generalize l[k] = a at *
      generalize hcs : (xs.drop (k * 4)).take 4 = fcs at hx
      obtain ⟨c0, c1, c2, c3, rfl⟩ := HJ.out.2.2.2.2 _ _ hx
      obtain ⟨rb, ro, rfl, hF, hc⟩ := rown_at H7.out.1 hlt hcs
      have ec : ∀ o v, w.cell? ⟨rb, o, none⟩ = some v → wr.cell? ⟨rb, o, none⟩ = some v := fun o v h => by
        rw [← h]
        exact World.cell?_of_block (HJ.out.2.1 _ _ hJ rb hF)
      have q0 := ec _ _ (hc 0 _ rfl)
      have q1 := ec _ _ (hc 1 _ rfl)
      have q2 := ec _ _ (hc 2 _ rfl)
      have q3 := ec _ _ (hc 3 _ rfl)
      rw [Nat.add_zero] at q0
      have HS := hide (HJ.out.2.2.2.1 k a _ (wr.alloc (.cells #[.pointer c0, .pointer c1, .pointer c2, .pointer c3] 96)) hlk hx (HJ.out.2.2.1 _ _ _ hJ))
      clear hx hlk hcs hc ec hF hJ
      go_wp2_with fail
      refine HS.out.mono ?_
      rintro e w1 ⟨rfl, hJ1⟩
      have H1 := hide hJ1
      clear hJ1 q0 q1 q2 q3 HS
      go_wp2_with fail
      exact ⟨⟨k + 1, by go_num, by omega, H1.out⟩, by simp [intOf]; omega⟩
    · have hke : k = l.length := by omega
      subst hke
      have hki1 : ¬ ((l.length : Nat) : Int) < (l.length : Int) := by omega
      rw [List.take_of_length_le (Nat.le_refl _)] at hJ
      have H3 := hide hJ
      clear hJ hlt
      go_wp2
      go_returns
      exact ⟨rfl, H3.out⟩

end Go.Proofs.YtajeghkjppkhcaaGreat

/-!
  impl.fromElemSet, impl.ElemSet.
-/

namespace Go.Proofs.YtajeghkjppkhcaaGreat
open Go.RowKit
attribute [local go_sem] run_store_float

theorem elem_info : (Tryz.prog.info? 33).map (fun i => (i.zero, i.size, i.bytes)) = some (some (.agg #[.int .i64 0, .string ⟨#[]⟩, .slice none 0 0, .slice none 0 0, .int .i64 0, .int .i64 0, .float .f64 0, .string ⟨#[]⟩, .slice none 0 0, .slice none 0 0, .int .i64 0]), 11, 168) := by kernel_rfl

/-- what the closure has laid into its variable up to now -/
def OutE (w0 : World) (vis : List E) (W : World) : Prop :=
  ∃ (s : Value) (xs : List Value), Bk W w0.heap.size 22 #[s] ∧ W.ownsRow (w0.heap.size + 1) 33 11 s vis.length xs ∧ Cells 11 (ElemAt (FrX (w0.heap.size + 1) W s) W) (vis.map E.toREl) xs ∧ Below w0.heap.size w0 W
theorem OutE.below {w0 W W' : World} {vis : List E} (h : OutE w0 vis W) (hb : Below W.heap.size W W') : OutE w0 vis W' := by
  obtain ⟨s, xs, h1, h2, h3, h4⟩ := h
  exact ⟨s, xs, h1.below hb h1.lt, ownsRow_below h2 hb (Nat.le_refl _), h3.mono fun _ _ h => (h.keeps (Keeps.below hb fun b hb => hb.2.1)).mono fun b hb' => ⟨hb'.1, Nat.lt_of_lt_of_le hb'.2.1 hb.size, hb'.2.2⟩, h4.trans (hb.mono h4.size)⟩

def FES (g h : Nat) (u a b c d : Value) (W : World) : Prop := W.cell? ⟨g, 0, none⟩ = some u ∧ W.cell? ⟨h, 0, none⟩ = some a ∧ W.cell? ⟨h, 1, none⟩ = some b ∧ W.cell? ⟨h, 2, none⟩ = some c ∧ W.cell? ⟨h, 3, none⟩ = some d

set_option maxRecDepth 100000 in
set_option maxHeartbeats 4000000 in
theorem fromElemSetC_calls {w0 V : World} {vis : List E} {e : E} {cs : List Value} (h : OutE w0 vis V) (he : PEAt (Old w0) w0 e cs) (hn : (vis.length + 1) * 168 ≤ R47) :
    Calls Tryz.prog 98 #[.agg cs.toArray, .pointer (some ⟨w0.heap.size, 0, none⟩)] V fun en W' => en = .returned (.tuple #[]) ∧ OutE w0 (vis ++ [e]) W' := by
  have hn' : (vis.length + 1) * 168 ≤ 140737488351232 := hn
  obtain ⟨i9, hi9, hz9, hs9, hb9⟩ := info_parts elem_info
  obtain ⟨s, xs, hbk, hown, hxs, hb⟩ := h
  obtain ⟨p0, p1, p2, p3, rfl⟩ := he.form
  obtain ⟨A, c, rfl, _, _⟩ := own_form hown
  have HE := hide fun (U : World) (hV : Below w0.heap.size w0 U) => fromElem_calls (he.at_ hV)
  have hol := hbk.lt
  have H0 := hide (And.intro hbk (And.intro hown (And.intro hxs hb)))
  clear hbk hown hxs hb he
  go_enter Tryz.func98, Tryz.ntmps98
  go_wp2_with fail
  have hbA : Below V.heap.size V (V.alloc (.cells #[.pointer p0, .pointer p1, .pointer p2, .pointer p3] 96)) := (Below.refl _ _).alloc (Nat.le_refl _) _
  have hX := Bk.new V 96 #[.pointer p0, .pointer p1, .pointer p2, .pointer p3]
  have hO := H0.out.1.alloc (.cells #[.pointer p0, .pointer p1, .pointer p2, .pointer p3] 96)
  generalize World.alloc V _ = w1 at hbA hX hO ⊢
  have b0 := hX.cell 0
  have b1 := hX.cell 1
  have b2 := hX.cell 2
  have b3 := hX.cell 3
  have o0 := hO.cell 0
  simp at b0 b1 b2 b3 o0
  have hxl := hX.lt
  have hol1 := hO.lt
  have hbw := H0.out.2.2.2.trans (hbA.mono H0.out.2.2.2.size)
  have hS0 : FES w0.heap.size V.heap.size (.slice A vis.length c) (.pointer p0) (.pointer p1) (.pointer p2) (.pointer p3) w1.drew := ⟨o0, b0, b1, b2, b3⟩
  obtain ⟨S, hS⟩ : ∃ S, FES w0.heap.size V.heap.size (.slice A vis.length c) (.pointer p0) (.pointer p1) (.pointer p2) (.pointer p3) = S := ⟨_, rfl⟩
  rw [hS] at hS0
  have H1 := hide (And.intro hbA (And.intro hO hbw))
  clear hX hO hbA hbw b0 b1 b2 b3 o0
  refine wp_region_head 4 S (by rfl) (by kernel_rfl) ?_
  refine HT.take 0 (v := ?_) rfl (by kernel_rfl) (fun _ _ _ h => h) (Or.inl ⟨by rfl, ?_⟩) (by assumption) ?_
  rotate_left
  · intro W hSw; rw [← hS] at hSw; obtain ⟨s0, s1, s2, s3, s4⟩ := (show FES w0.heap.size V.heap.size (.slice A vis.length c) (.pointer p0) (.pointer p1) (.pointer p2) (.pointer p3) W from hSw); go_simp; with_reducible rfl
  simp only [Act.put, List.setIfInBounds_toArray, List.set_cons_zero, List.set_cons_succ]
  refine HT.take 1 (v := ?_) rfl (by kernel_rfl) (fun _ _ _ h => h) (Or.inl ⟨by rfl, ?_⟩) (by assumption) ?_
  rotate_left
  · intro W hSw; rw [← hS] at hSw; obtain ⟨s0, s1, s2, s3, s4⟩ := (show FES w0.heap.size V.heap.size (.slice A vis.length c) (.pointer p0) (.pointer p1) (.pointer p2) (.pointer p3) W from hSw); go_simp; with_reducible rfl
  simp only [Act.put, List.setIfInBounds_toArray, List.set_cons_zero, List.set_cons_succ]
  refine HT.one 2 rfl (by kernel_rfl) (by rfl) (fun K hK => ?_)
  go_simp
  refine (HE.out w1.drew (below_drew H1.out.2.2)).mono ?_
  rintro en w2 ⟨ccs, rfl, hcc, hb2⟩
  have hb2' : Below w1.heap.size w1 w2 := below_drew' hb2
  have ec := (bcell hb2').1
  have hS2 : S w2 := by
    rw [← hS] at hS0 ⊢
    obtain ⟨s0, s1, s2, s3, s4⟩ := hS0
    exact ⟨(ec _ _ hol1).trans s0, (ec _ _ hxl).trans s1, (ec _ _ hxl).trans s2, (ec _ _ hxl).trans s3, (ec _ _ hxl).trans s4⟩
  obtain ⟨e0, e1, e2, e3, e4, e5, e6, e7, e8, e9, ea, eb, ec', ed, ee, ef, eg, eh, ei, rfl⟩ := hcc.form
  go_simp
  refine hK.out _ _ hS2 ?_
  clear hK K
  have hs2 := hb2'.size
  refine HT.one 3 rfl (by kernel_rfl) (by rfl) (fun K hK => ?_)
  go_simp
  refine hK.out _ _ (by
    rw [← hS] at hS2 ⊢
    obtain ⟨s0, s1, s2, s3, s4⟩ := hS2
    have ed := (bcell ((Below.refl w2.heap.size w2).alloc (Nat.le_refl _) (.cells #[.int .i64 e0, .string e1, .slice e2 e3 e4, .slice e5 e6 e7, .int .i64 e8, .int .i64 e9, .float .f64 ea, .string eb, .slice ec' ed ee, .slice ef eg eh, .int .i64 ei] 33))).1
    exact ⟨(ed _ _ (by omega)).trans s0, (ed _ _ (by omega)).trans s1, (ed _ _ (by omega)).trans s2, (ed _ _ (by omega)).trans s3, (ed _ _ (by omega)).trans s4⟩) ?_
  clear hK K
  refine HT.done (by kernel_rfl) ?_
  simp only [List.drop_succ_cons, List.drop_zero]
  have hbw2 : Below V.heap.size V w2 := H1.out.1.trans (hb2'.mono H1.out.1.size)
  have hcc' : ElemAt (Fr V.heap.size w2) w2 e.toREl _ := hcc.mono fun b hb => ⟨Nat.le_trans H1.out.1.size hb.1, hb.2⟩
  have H2 := hide (And.intro hbw2 hcc')
  have hws : V.heap.size ≤ w2.heap.size := hbw2.size
  clear hS0 hS2 hS hb2 hb2' ec hcc hcc' hbw2 HE
  go_wp2_with (at_builtin; go_loud (refine wpList_append_row _ rfl (.tmp 3) (.tmp 6) 22 rfl (w0.heap.size + 1) 33 i9 _ 11 168 Tryz.underlying22 hi9 hz9 hs9 hb9 rfl (by omega) _ vis.length xs rfl ((ownsRow_below H0.out.2.1 H2.out.1 (Nat.le_refl _)).alloc _) (fun _ => True) (some ⟨w2.heap.size, 0, none⟩) 1 1 [.int .i64 e0, .string e1, .slice e2 e3 e4, .slice e5 e6 e7, .int .i64 e8, .int .i64 e9, .float .f64 ea, .string eb, .slice ec' ed ee, .slice ef eg eh, .int .i64 ei] rfl (Row.of_bkp (Bk.new w2 33 [.int .i64 e0, .string e1, .slice e2 e3 e4, .slice e5 e6 e7, .int .i64 e8, .int .i64 e9, .float .f64 ea, .string eb, .slice ec' ed ee, .slice ef eg eh, .int .i64 ei].toArray) rfl trivial) (by simp [Value.oneCell']) (by omega) (by omega) (by rw [World.size_alloc]; omega) ?_))
  intro out' w3 hown3 hg3 hat3
  have hst := cells_stepp (Q := fun F w a cs => ElemAt F w a cs) (a := e.toREl) (fun h k => h.keeps k) (fun h k => h.mono k) H0.out.2.1 H0.out.2.2.1 (by omega) H2.out.2 rfl H2.out.1 hg3 (by rw [World.size_alloc]; exact hat3)
  have hlo := H0.out.2.1.lt
  have hO3 : Bk w3 w0.heap.size 22 #[.slice A vis.length c] := ((H0.out.1.below H2.out.1 hol).alloc _).grown hg3 (fun e => by have := (hlo _ e.symm).1; omega)
  have hbf : Below w0.heap.size w0 w3 := ((H0.out.2.2.2.trans (H2.out.1.mono H0.out.2.2.2.size)).alloc (by omega) _).grown hg3 (by rw [World.size_alloc]; omega) fun k e => by have := (hlo k e).1; omega
  obtain ⟨nA, nc, rfl, _, _⟩ := own_form hown3
  have hO4 := hO3.set_ 0 (.slice nA (vis.length + 1) nc)
  simp at hO4
  have hs3 : w2.heap.size + 1 ≤ w3.heap.size := by have := hg3.size; rw [World.size_alloc] at this; exact this
  have hfin : OutE w0 (vis ++ [e]) (w3.setCell ⟨w0.heap.size, 0, none⟩ (.slice nA (vis.length + 1) nc)) := by
    refine ⟨_, _, hO4, by simpa using ownsRow_setCell_below hown3 (show w0.heap.size < w0.heap.size + 1 by omega) _, ?_, hbf.setCell (Nat.le_refl _) _⟩
    rw [List.map_append, List.map_cons, List.map_nil]
    exact hst.1.mono fun _ _ h => (h.keeps fun b hb => Below.heap_setCell _ _ _ _ (by show b ≠ w0.heap.size; have := hb.1; omega)).mono fun b hb => ⟨hb.1, by rw [(setCell_same _ _ _).2.2.2]; exact hb.2.1, hb.2.2⟩
  have q0 := hO3.cell 0
  have q1 : ∀ i, w3.frozen? ⟨w0.heap.size, i, none⟩ = false := fun i => hO3.free i
  simp at q0
  have Hfin := hide hfin
  clear hown3 hg3 hat3 hst hlo hO3 hbf hO4 hfin H0 H1 H2
  go_wp2
  go_returns
  exact ⟨rfl, Hfin.out⟩

/-- steps handed back as structs; their memory is new -/
def GivesEls (rs : List REl) (w : World) (en : Ending) (w' : World) : Prop := ∃ A c, en = .returned (.slice A rs.length c) ∧ PathAt (Fr w.heap.size w') w' rs A c ∧ Below w.heap.size w w'

set_option maxRecDepth 100000 in
set_option maxHeartbeats 4000000 in
theorem fromElemSet_calls {l : List E} {A : Option Addr} {c g o : Nat} {w : World} {xs : List Value} (m0 : w.cell? ⟨g, o, none⟩ = some (.slice A l.length c)) (hgl : g < w.heap.size) (hr : Row (Old w) w 4 A l.length xs) (hx : Cells 4 (PEAt (Old w) w) l xs) (hn : l.length * 168 ≤ R47) :
    Calls Tryz.prog 53 #[.pointer (some ⟨g, o, none⟩)] w (GivesEls (l.map E.toREl) w) := by
  have hb0 : Below w.heap.size w (w.alloc (.cells #[.slice none 0 0] 22)) := (Below.refl _ _).alloc (Nat.le_refl _) _
  have hJ0 : OutE w [] (w.alloc (.cells #[.slice none 0 0] 22)) := ⟨_, [], Bk.new _ _ _, World.ownsRow_nil _ _ _ _, Cells.nil_, hb0⟩
  have hit := esIterate_calls (F := Old w) (Q := PEAt (Old w) w) (((bcell hb0).1 g o hgl).trans m0) (by unfold R47 at *; omega) (hr.keeps (Keeps.below hb0 fun _ h => h)) hx (fun a cs h => h.form)
    98 #[.pointer (some ⟨w.heap.size, 0, none⟩)] (fun args W => by kernel_rfl) (OutE w) hJ0 (fun vis W h => by
      obtain ⟨s, xs, h1, h2, h3, h4⟩ := h
      intro b hb
      rw [h4.block b hb, hb0.block b hb]) (fun vis W o h => h.below ((Below.refl _ _).alloc (Nat.le_refl _) _)) (fun k a cs W ha hq hJ => by
      have hk := (List.getElem?_eq_some_iff.1 ha)
      have hk1 := hk.1
      rw [List.take_succ_eq_append_getElem hk1, hk.2]
      exact fromElemSetC_calls hJ hq (by rw [List.length_take]; unfold R47 at *; omega))
  have H := hide hit
  have Hn := hide hn
  clear hit hn hJ0 hb0 hr hx m0
  go_enter Tryz.func53, Tryz.ntmps53
  go_wp2_with fail
  refine H.out.mono ?_
  rintro en w1 ⟨rfl, s, ys, h1, h2, h3, h4⟩
  obtain ⟨B, d, rfl, hd1, hd2⟩ := own_form h2
  have m0 := h1.cell 0
  simp at m0
  have hlt := h2.lt
  have hfin : PathAt (Fr w.heap.size w1) w1 (l.map E.toREl) B d := ⟨by rw [List.length_map]; exact Hn.out, by rw [List.length_map]; exact hd1, hd2, ys, by rw [List.length_map]; exact Row.of_own h2 fun b hb => ⟨by have := (hlt b hb).1; omega, (hlt b hb).2⟩, h3.mono fun _ _ h => h.mono fun b hb => ⟨by have := hb.1; omega, hb.2.1⟩⟩
  have Hfin := hide (And.intro hfin h4)
  have Hlm := hide (show (l.map E.toREl).length = l.length from List.length_map _)
  clear h1 h2 h3 h4 hlt hfin
  go_wp2
  go_ret
  exact ⟨B, d, by rw [Hlm.out]; rfl, Hfin.out.1, Hfin.out.2⟩

set_option maxRecDepth 100000 in
theorem implElemSet_calls {l : List REl} {A : Option Addr} {c : Nat} {w : World} (h : PathAt (Old w) w l A c) (hok : POk (pel l)) : Calls Tryz.prog 15 #[.slice A l.length c] w (GivesEls ((setE (pel l)).map E.toREl) w) := by
  have hl := h.1
  have H := hide (toElemSet_calls h hok)
  have hle := (setE_ok hok).2.2
  rw [pel_length] at hle
  have Hle := hide (And.intro hl hle)
  clear h hok hl hle
  go_enter Tryz.func15, Tryz.ntmps15
  go_wp2_with fail
  refine H.out.mono ?_
  rintro e w1 ⟨s, xs, rfl, hes, hsB, hb⟩
  obtain ⟨sA, sc, rfl, _, _⟩ := own_form hes.own
  have m0 := hes.bk.cell 0
  simp at m0
  have hlt := hes.own.lt
  have H2 := hide (fromElemSet_calls m0 hes.bk.lt (Row.of_own hes.own fun b hb => (hlt b hb).2) (hes.at_.mono fun _ _ h => h.mono fun b hb => hb.2.1) (by have := Hle.out; unfold R47 at *; omega))
  have Hb := hide hb
  clear hb hes hsB hlt m0 H Hle
  generalize (setE (pel l)).map E.toREl = rs at *
  go_wp2_with fail
  refine H2.out.mono ?_
  rintro e w2 ⟨B, d, rfl, hp, hb2⟩
  have Hf := hide (And.intro (hp.mono fun b hb => ⟨Nat.le_trans Hb.out.size hb.1, hb.2⟩ : PathAt (Fr w.heap.size w2) w2 rs B d) (Hb.out.trans (hb2.mono Hb.out.size)))
  clear hp hb2
  go_wp2
  go_ret
  exact ⟨B, d, rfl, Hf.out.1, Hf.out.2⟩

end Go.Proofs.YtajeghkjppkhcaaGreat
