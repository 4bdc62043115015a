/-
  Several texts in one: FromSet, Iter, Iter2, MakeSet.
-/
import Derived.Test.YtajeghkjppkhcaaGreatSpecSetOf
import Derived.Test.YtajeghkjppkhcaaGreatElemSetX
import Derived.Test.YtajeghkjppkhcaaGreatCopyIns
import Derived.Test.YtajeghkjppkhcaaGreatSetA
set_option linter.unusedVariables false
set_option linter.unusedSimpArgs false
/-!
  impl.fromPath; the closure of impl.fromSet. Printed by genfromset.py.
-/

namespace Go.Proofs.YtajeghkjppkhcaaGreat
open Go.RowKit
attribute [local go_sem] run_store_float

/-- at the head of a round of fromPath -/
def FPInv (w : World) (p : List E) (s3 s9 : Value) (W : World) : Prop :=
  ∃ (k : Nat) (us : List Value), s9 = .int .i64 (k : Int) ∧ k ≤ p.length ∧ W.ownsRow w.heap.size 33 11 s3 k us ∧ Cells 11 (ElemAt (FrX w.heap.size W s3) W) ((p.take k).map E.toREl) us ∧ Below w.heap.size w W

set_option maxRecDepth 100000 in
set_option maxHeartbeats 4000000 in
theorem fromPath_calls {p : List E} {A : Option Addr} {c : Nat} {w : World} (h : PPathAt (Old w) w p A c) (hn : p.length * 168 ≤ R47) : Calls Tryz.prog 121 #[.slice A p.length c] w (GivesEls (p.map E.toREl) w) := by
  obtain ⟨h1, h2, h3, xs, h4, h5⟩ := h
  have h1' : p.length * 168 ≤ 140737488351232 := hn
  obtain ⟨i9, hi9, hz9, hs9, hb9⟩ := info_parts elem_info
  have H7 := hide (And.intro h4 h5)
  clear h1 h4 h5 hn
  go_enter Tryz.func121, Tryz.ntmps121
  go_wp2_with fail
  have hb0 : Below w.heap.size w (w.alloc (.cells #[] 33)) := (Below.refl _ _).alloc (Nat.le_refl _) _
  have hown0 := World.ownsRow_lit (base := w.heap.size) (e := 33) (size := 11) w #[] 0 (by simp) (by simp [maxLen]) (by simp)
  have H0 := hide (And.intro hb0 hown0)
  clear hb0 hown0
  go_loopw [3, 9] (fun s3 s9 W => FPInv w p s3 s9 W) (fun _ s _ => p.length - (intOf s).toNat)
  case atStart => exact ⟨0, [], rfl, Nat.zero_le _, H0.out.2, Cells.nil_, H0.out.1⟩
  case round =>
    obtain ⟨k, us, rfl, hk, hown, hus, hb⟩ := hrel
    by_cases hlt : k < p.length
    · have hki0 : (0 : Int) ≤ (k : Int) := Int.natCast_nonneg _
      have hki1 : (k : Int) < (p.length : Int) := by omega
      have hx := H7.out.2.at_ hlt
      have hsn : (p.take (k + 1)).map E.toREl = (p.take k).map E.toREl ++ [(p[k]).toREl] := by rw [List.take_succ_eq_append_getElem hlt, List.map_append]; rfl
      generalize p[k] = fx at *
      generalize hcs : (xs.drop (k * 4)).take 4 = fcs at hx
      obtain ⟨a0, a1, a2, a3, rfl⟩ := hx.form
      obtain ⟨rb, ro, rfl, hF, hc⟩ := rown_at H7.out.1 hlt hcs
      have ec := (bcell hb).1
      have m0 := (ec _ _ hF).trans (hc 0 _ rfl)
      have m1 := (ec _ _ hF).trans (hc 1 _ rfl)
      have m2 := (ec _ _ hF).trans (hc 2 _ rfl)
      have m3 := (ec _ _ hF).trans (hc 3 _ rfl)
      rw [Nat.add_zero] at m0
      have hrb : rb < w.heap.size := hF
      have HE := hide fun (W : World) (hb : Below w.heap.size w W) => fromElem_calls (hx.at_ hb)
      have Hq := hide (And.intro hown (And.intro hus (And.intro hb hsn)))
      clear hown hus hb hsn hx hcs hc ec hF
      go_wp2_with fail
      have hbA : Below wr.heap.size wr (wr.alloc (.cells #[.pointer a0, .pointer a1, .pointer a2, .pointer a3] 96)) := (Below.refl _ _).alloc (Nat.le_refl _) _
      have hbw := Hq.out.2.2.1.trans (hbA.mono Hq.out.2.2.1.size)
      refine (HE.out _ hbw).mono ?_
      rintro e w1 ⟨ps, rfl, hp, hb1⟩
      obtain ⟨e0, e1, e2, e3, e4, e5, e6, e7, e8, e9, ea, eb, ec', ed, ee, ef, eg, eh, ei, rfl⟩ := hp.form
      have hp' : ElemAt (Fr wr.heap.size w1) w1 fx.toREl [.int .i64 e0, .string e1, .slice e2 e3 e4, .slice e5 e6 e7, .int .i64 e8, .int .i64 e9, .float .f64 ea, .string eb, .slice ec' ed ee, .slice ef eg eh, .int .i64 ei] := hp.mono fun b hb => ⟨by have := hb.1; rw [World.size_alloc] at this; omega, hb.2⟩
      have hb1' : Below wr.heap.size wr w1 := hbA.trans (hb1.mono hbA.size)
      have H1 := hide (And.intro hp' hb1')
      have hs0 : w.heap.size ≤ w1.heap.size := (Hq.out.2.2.1.trans (hb1'.mono Hq.out.2.2.1.size)).size
      clear hp hp' hb1 hb1' hbA hbw m0 m1 m2 m3 HE
      obtain ⟨oA, oc, rfl, _, _⟩ := own_form Hq.out.1
      go_wp2_with (at_builtin; go_loud (refine wpList_append_row _ rfl (.tmp 13) (.tmp 16) 22 rfl w.heap.size 33 i9 _ 11 168 Tryz.underlying22 hi9 hz9 hs9 hb9 rfl (by omega) _ k us rfl ((ownsRow_below Hq.out.1 H1.out.2 (Nat.le_refl _)).alloc _) (fun _ => True) (some ⟨w1.heap.size, 0, none⟩) 1 1 [.int .i64 e0, .string e1, .slice e2 e3 e4, .slice e5 e6 e7, .int .i64 e8, .int .i64 e9, .float .f64 ea, .string eb, .slice ec' ed ee, .slice ef eg eh, .int .i64 ei] rfl (Row.of_bkp (Bk.new w1 33 ([.int .i64 e0, .string e1, .slice e2 e3 e4, .slice e5 e6 e7, .int .i64 e8, .int .i64 e9, .float .f64 ea, .string eb, .slice ec' ed ee, .slice ef eg eh, .int .i64 ei] : List Value).toArray) rfl trivial) (by simp [Value.oneCell']) (by omega) (by omega) (by rw [World.size_alloc]; omega) ?_))
      intro out' w2 hown2 hg2 hat2
      have hcs := cells_stepp (Q := fun F w a cs => ElemAt F w a cs) (a := fx.toREl) (fun h k => h.keeps k) (fun h k => h.mono k) Hq.out.1 Hq.out.2.1 Hq.out.2.2.1.size H1.out.1 rfl H1.out.2 hg2 (by rw [World.size_alloc]; exact hat2)
      have hlo := Hq.out.1.lt
      have hbf : Below w.heap.size w w2 := ((Hq.out.2.2.1.trans (H1.out.2.mono Hq.out.2.2.1.size)).alloc hs0 _).grown hg2 (by rw [World.size_alloc]; omega) fun k e => (hlo k e).1
      have Hfin := hide (And.intro hown2 (And.intro hcs (And.intro hbf Hq.out.2.2.2)))
      obtain ⟨nA, nc, rfl, _, _⟩ := own_form hown2
      clear hown2 hg2 hat2 hcs hlo hbf H1 Hq hs0
      go_wp2_with fail
      exact ⟨⟨k + 1, _, by go_num, by omega, Hfin.out.1, by rw [Hfin.out.2.2.2]; exact Hfin.out.2.1.1, Hfin.out.2.2.1⟩, by simp [intOf]; omega⟩
    · have hke : k = p.length := by omega
      subst hke
      have hki1 : ¬ ((p.length : Nat) : Int) < (p.length : Int) := by omega
      rw [List.take_of_length_le (Nat.le_refl _)] at hus
      obtain ⟨oA, oc, rfl, hc1, hc2⟩ := own_form hown
      have hlt := hown.lt
      have hfin : PathAt (Fr w.heap.size wr) wr (p.map E.toREl) oA oc := ⟨by rw [List.length_map]; unfold R47; omega, by rw [List.length_map]; exact hc1, hc2, us, by rw [List.length_map]; exact Row.of_own hown hlt, hus.mono fun a cs h => h.mono fun b hb => ⟨hb.1, hb.2.1⟩⟩
      have H3 := hide (And.intro hb hfin)
      have Hlm := hide (show (p.map E.toREl).length = p.length from List.length_map _)
      clear hb hown hus hlt hc1 hc2 hfin
      go_wp2
      go_ret
      exact ⟨oA, oc, by rw [Hlm.out]; rfl, H3.out.2, H3.out.1⟩

/-- the frame of a piece of work: what it may have written lies in K or is new -/
structure Work (K : Nat → Prop) (W W' : World) : Prop where
  os : W'.os = W.os
  tape : W'.tape = W.tape
  output : W'.output = W.output
  size : W.heap.size ≤ W'.heap.size
  frame : ∀ b, b < W.heap.size → ¬ K b → W'.heap[b]? = W.heap[b]?
theorem Work.refl (K : Nat → Prop) (W : World) : Work K W W := ⟨rfl, rfl, rfl, Nat.le_refl _, fun _ _ _ => rfl⟩
theorem Work.trans {K K' : Nat → Prop} {a b c : World} (h : Work K a b) (h' : Work K' b c) (hk : ∀ x, K' x → K x ∨ a.heap.size ≤ x) : Work K a c :=
  ⟨h'.os.trans h.os, h'.tape.trans h.tape, h'.output.trans h.output, Nat.le_trans h.size h'.size, fun x hx hn => (h'.frame x (Nat.lt_of_lt_of_le hx h.size) fun e => (hk x e).elim hn (by omega)).trans (h.frame x hx hn)⟩
theorem Work.mono {K K' : Nat → Prop} {a b : World} (h : Work K a b) (hk : ∀ x, K x → K' x) : Work K' a b := ⟨h.os, h.tape, h.output, h.size, fun x hx hn => h.frame x hx fun e => hn (hk x e)⟩
theorem Work.of_below {K : Nat → Prop} {a b : World} (h : Below a.heap.size a b) : Work K a b := ⟨h.os, h.tape, h.output, h.size, fun x hx _ => h.block x hx⟩
theorem Work.keeps {K F : Nat → Prop} {a b : World} (h : Work K a b) (hF : ∀ x, F x → x < a.heap.size ∧ ¬ K x) : Keeps F a b := fun x hx => h.frame x (hF x hx).1 (hF x hx).2
theorem Work.below {K : Nat → Prop} {B : Nat} {a b : World} (h : Work K a b) (hB : B ≤ a.heap.size) (hK : ∀ x, K x → B ≤ x) : Below B a b := ⟨h.os, h.tape, h.output, h.size, fun x hx => h.frame x (by omega) fun e => by have := hK x e; omega⟩

/-- what the closure has laid into its variable up to now; K: its blocks -/
def OutP (w0 : World) (vis : List (List E)) (K : Nat → Prop) (W : World) : Prop :=
  ∃ (s : Value) (xs : List Value), Bk W w0.heap.size 39 #[s] ∧ W.ownsRow (w0.heap.size + 1) 22 1 s vis.length xs ∧ Cells 1 (PQ (fun b => w0.heap.size + 1 ≤ b ∧ b < W.heap.size ∧ some b ≠ s.ownBlock ∧ K b) W) (vis.map (List.map E.toREl)) xs ∧ Below w0.heap.size w0 W ∧
    K w0.heap.size ∧ (∀ b, s.ownBlock = some b → K b) ∧ ∀ b, K b → w0.heap.size ≤ b ∧ b < W.heap.size
theorem OutP.keep {w0 W W' : World} {vis : List (List E)} {K : Nat → Prop} (h : OutP w0 vis K W) (hw : Work (fun b => ¬ K b ∧ w0.heap.size ≤ b) W W') : OutP w0 vis K W' := by
  obtain ⟨s, xs, h1, h2, h3, h4, h5, h6, h7⟩ := h
  have k : ∀ b, K b → W'.heap[b]? = W.heap[b]? := fun b hb => hw.frame b (h7 b hb).2 fun e => e.1 hb
  refine ⟨s, xs, (k _ h5).trans h1, ownsRow_keptB h2 fun b hb => k b (h6 b hb), h3.mono fun _ _ h => PQ.mono (PQ.keeps h fun b hb => k b hb.2.2.2) fun b hb => ⟨hb.1, Nat.lt_of_lt_of_le hb.2.1 hw.size, hb.2.2⟩, ?_, h5, h6, fun b hb => ⟨(h7 b hb).1, Nat.lt_of_lt_of_le (h7 b hb).2 hw.size⟩⟩
  exact h4.trans (hw.below h4.size fun b hb => hb.2)

set_option maxRecDepth 100000 in
set_option maxHeartbeats 4000000 in
theorem fromSetC_calls {w0 V : World} {vis : List (List E)} {K G : Nat → Prop} {p : List E} {A : Option Addr} {c : Nat} (h : OutP w0 vis K V) (hp : PPathAt G V p A c) (hG : ∀ b, G b → b < V.heap.size) (hn : (vis.length + 1) * 24 ≤ R47) (hpl : p.length * 168 ≤ R47) :
    Calls Tryz.prog 120 #[.slice A p.length c, .pointer (some ⟨w0.heap.size, 0, none⟩)] V fun en W' => en = .returned (.tuple #[]) ∧ ∃ K', OutP w0 (vis ++ [p]) K' W' ∧ (∀ b, K' b → K b ∨ V.heap.size ≤ b) ∧ Work K V W' := by
  have hn' : (vis.length + 1) * 24 ≤ 140737488351232 := hn
  obtain ⟨i9, hi9, hz9, hs9, hb9⟩ := info_parts paths_info
  obtain ⟨s, xs, hbk, hown, hxs, hb, hK0, hKs, hKb⟩ := h
  obtain ⟨B, d, rfl, _, _⟩ := own_form hown
  have HE := hide (fromPath_calls (w := V.drew) ((hp.keeps (w' := V.drew) fun _ _ => rfl).mono (G := Old V.drew) fun b hb => hG b hb) hpl)
  have hol := hbk.lt
  have o0 := hbk.cell 0
  simp at o0
  have H0 := hide (And.intro hbk (And.intro hown (And.intro hxs (And.intro hb (And.intro hK0 (And.intro hKs hKb))))))
  clear hbk hown hxs hb hp hK0 hKs hKb hG
  obtain ⟨pn, hpn⟩ : ∃ pn, (p.map E.toREl).length = pn := ⟨_, rfl⟩
  have Hpn := hide hpn
  clear hpn hpl
  go_enter Tryz.func120, Tryz.ntmps120
  go_wp2_with fail
  obtain ⟨S, hS⟩ : ∃ S : World → Prop, (fun W => W.cell? ⟨w0.heap.size, 0, none⟩ = some (.slice B vis.length d)) = S := ⟨_, rfl⟩
  have hS0 : S V.drew := by rw [← hS]; exact o0
  refine wp_region_head 4 S (by rfl) (by kernel_rfl) ?_
  refine HT.take 0 (v := ?_) rfl (by kernel_rfl) (fun _ _ _ h => h) (Or.inl ⟨by rfl, ?_⟩) (by assumption) ?_
  rotate_left
  · intro W hSw; rw [← hS] at hSw; have hSw := show W.cell? ⟨w0.heap.size, 0, none⟩ = some (.slice B vis.length d) from hSw; go_simp; with_reducible rfl
  simp only [Act.put, List.setIfInBounds_toArray, List.set_cons_zero, List.set_cons_succ]
  refine HT.take 1 (v := ?_) rfl (by kernel_rfl) (fun _ _ _ h => h) (Or.inl ⟨by rfl, ?_⟩) (by assumption) ?_
  rotate_left
  · intro W hSw; rw [← hS] at hSw; have hSw := show W.cell? ⟨w0.heap.size, 0, none⟩ = some (.slice B vis.length d) from hSw; go_simp; with_reducible rfl
  simp only [Act.put, List.setIfInBounds_toArray, List.set_cons_zero, List.set_cons_succ]
  refine HT.one 2 rfl (by kernel_rfl) (by rfl) (fun K hK => ?_)
  go_simp
  refine HE.out.mono ?_
  rintro en w2 ⟨A2, c2, rfl, hpp, hb2⟩
  rw [Hpn.out]
  have hb2' : Below V.heap.size V w2 := below_drew' hb2
  have hS2 : S w2 := by rw [← hS]; exact ((bcell hb2').1 _ _ hol).trans o0
  go_simp
  refine hK.out _ _ hS2 ?_
  clear hK K
  have hs2 := hb2'.size
  refine HT.one 3 rfl (by kernel_rfl) (by rfl) (fun K hK => ?_)
  go_simp
  refine hK.out _ _ (by
    rw [← hS] at hS2 ⊢
    exact ((bcell ((Below.refl w2.heap.size w2).alloc (Nat.le_refl _) (.cells #[.slice A2 pn c2] 22))).1 _ _ (by omega)).trans hS2) ?_
  clear hK K
  refine HT.done (by kernel_rfl) ?_
  simp only [List.drop_succ_cons, List.drop_zero]
  have hpp' : PQ (Fr V.heap.size w2) w2 (p.map E.toREl) [.slice A2 pn c2] := ⟨A2, c2, by rw [Hpn.out], hpp⟩
  have H2 := hide (And.intro hb2' hpp')
  clear hS0 hS2 hS hb2 hb2' hpp hpp' HE
  have hbase : w0.heap.size + 1 ≤ V.heap.size := hol
  go_wp2_with (at_builtin; go_loud (refine wpList_append_row _ rfl (.tmp 3) (.tmp 6) 39 rfl (w0.heap.size + 1) 22 i9 _ 1 24 Tryz.underlying39 hi9 hz9 hs9 hb9 rfl (by omega) _ vis.length xs rfl ((ownsRow_below H0.out.2.1 H2.out.1 (Nat.le_refl _)).alloc _) (fun _ => True) (some ⟨w2.heap.size, 0, none⟩) 1 1 [.slice A2 pn c2] rfl (Row.of_bkp (Bk.new w2 22 ([.slice A2 pn c2] : List Value).toArray) rfl trivial) (by simp [Value.oneCell']) (by omega) (by omega) (by rw [World.size_alloc]; omega) ?_))
  intro out' w3 hown3 hg3 hat3
  have hlo := H0.out.2.1.lt
  have hs3 : w2.heap.size + 1 ≤ w3.heap.size := by have := hg3.size; rw [World.size_alloc] at this; exact this
  have hO3 : Bk w3 w0.heap.size 39 #[.slice B vis.length d] := ((H0.out.1.below H2.out.1 hol).alloc _).grown hg3 (fun e => by have := (hlo _ e.symm).1; omega)
  obtain ⟨nA, nc, rfl, _, _⟩ := own_form hown3
  have hO4 := hO3.set_ 0 (.slice nA (vis.length + 1) nc)
  simp at hO4
  have hgr := grown2_mk (o := w0.heap.size) (i := 0) (u := .slice nA (vis.length + 1) nc) (H2.out.1.alloc hs2 _) hg3
  have hlo3 := hown3.lt
  have hwork : Work K V (w3.setCell ⟨w0.heap.size, 0, none⟩ (.slice nA (vis.length + 1) nc)) :=
    ⟨hgr.os, hgr.tape, hgr.output, hgr.size, fun b hb hn => hgr.block b hb (fun e => hn (e ▸ H0.out.2.2.2.2.1)) fun e => hn (H0.out.2.2.2.2.2.1 b e.symm)⟩
  have hkO : Keeps (fun b => w0.heap.size + 1 ≤ b ∧ b < V.heap.size ∧ some b ≠ (Value.slice B vis.length d).ownBlock ∧ K b) V (w3.setCell ⟨w0.heap.size, 0, none⟩ (.slice nA (vis.length + 1) nc)) := fun b hb => hgr.block b hb.2.1 (by have := hb.1; omega) hb.2.2.1
  have hkN : Keeps (Fr V.heap.size w2) w2 (w3.setCell ⟨w0.heap.size, 0, none⟩ (.slice nA (vis.length + 1) nc)) := by
    rintro b ⟨q1, q2⟩
    rw [Below.heap_setCell _ _ _ _ (by show b ≠ w0.heap.size; omega), hg3.block b (by rw [World.size_alloc]; omega) (fun e => by have := (hlo _ e.symm).2; omega), Below.heap_alloc _ _ _ q2]
  have hfin : OutP w0 (vis ++ [p]) (fun b => K b ∨ (V.heap.size ≤ b ∧ b < w3.heap.size)) (w3.setCell ⟨w0.heap.size, 0, none⟩ (.slice nA (vis.length + 1) nc)) := by
    refine ⟨_, _, hO4, by simpa using ownsRow_setCell_below hown3 (show w0.heap.size < w0.heap.size + 1 by omega) _, ?_, ?_, .inl H0.out.2.2.2.2.1, fun b hb => ?_, fun b hb => ?_⟩
    · rw [List.map_append, List.map_cons, List.map_nil]
      refine Cells.append (H0.out.2.2.1.mono fun _ _ h => PQ.mono (PQ.keeps h hkO) fun b hb => ⟨hb.1, by rw [(setCell_same _ _ _).2.2.2]; omega, fun e => ?_, .inl hb.2.2.2⟩) (Cells.one (PQ.mono (PQ.keeps H2.out.2 hkN) fun b hb => ⟨by have := hb.1; omega, by rw [(setCell_same _ _ _).2.2.2]; have := hb.2; omega, fun e => ?_, .inr ⟨hb.1, by have := hb.2; omega⟩⟩) rfl)
      · rcases hat3 with e' | e'
        · exact hb.2.2.1 (by rw [← e']; exact e)
        · rw [e'] at e; have e3 : b = w2.heap.size + 1 := Option.some.inj e; have := hb.2.1; omega
      · rcases hat3 with e' | e'
        · rw [e'] at e; have := (hlo b e.symm).2; have := hb.1; omega
        · rw [e'] at e; have e3 : b = w2.heap.size + 1 := Option.some.inj e; have := hb.2; omega
    · exact H0.out.2.2.2.1.trans (hwork.below H0.out.2.2.2.1.size fun b hb => (H0.out.2.2.2.2.2.2 b hb).1)
    · rcases hat3 with e' | e'
      · exact .inl (H0.out.2.2.2.2.2.1 b (by rw [← e']; exact hb))
      · exact .inr ⟨by rw [e'] at hb; have e3 : w2.heap.size + 1 = b := Option.some.inj hb; omega, (hlo3 b hb).2⟩
    · rw [(setCell_same _ _ _).2.2.2]
      rcases hb with hb | hb
      · have := H0.out.2.2.2.2.2.2 b hb; exact ⟨this.1, by omega⟩
      · exact ⟨by omega, hb.2⟩
  have q0 := hO3.cell 0
  have q1 : ∀ i, w3.frozen? ⟨w0.heap.size, i, none⟩ = false := fun i => hO3.free i
  simp at q0
  have Hfin := hide (And.intro hfin hwork)
  clear hown3 hg3 hat3 hlo hO3 hO4 hfin hgr hlo3 hwork hkO hkN H0 H2 o0
  go_wp2
  go_returns
  exact ⟨rfl, _, Hfin.out.1, fun b hb => hb.imp id fun h => h.1, Hfin.out.2⟩

end Go.Proofs.YtajeghkjppkhcaaGreat

/-!
  Set.iteratePrefix, Set.Iterate: generic in the closure.
-/

namespace Go.Proofs.YtajeghkjppkhcaaGreat
open Go.RowKit
attribute [local go_sem] run_store_float

/-- how deep a set is -/
inductive St.Ht : Nat → St → Prop
  | mk {n : Nat} {m : List E} {ks : List (E × St)} : (∀ k ∈ ks, St.Ht n k.2) → St.Ht (n + 1) (.mk m ks)
theorem St.Ht.empty_ (n : Nat) : St.Ht (n + 1) St.empty := .mk (by simp)
theorem ins_ht : ∀ {p : List E} {n : Nat} {s : St}, s.Ht n → p.length ≤ n → (St.ins p s).Ht n
  | [], n, s, h, _ => h
  | [e], n, s, h, _ => by
    cases h with
    | mk h => exact .mk h
  | e :: x :: p, n, s, h, hl => by
    cases h with
    | @mk n m ks h =>
      simp only [List.length_cons] at hl
      refine .mk fun k hk => ?_
      rcases mem_insK hk with rfl | ⟨k', h6, rfl⟩ | hk
      · obtain ⟨n', rfl⟩ : ∃ n', n = n' + 1 := ⟨n - 1, by omega⟩
        exact ins_ht (St.Ht.empty_ n') (by simp only [List.length_cons]; omega)
      · exact ins_ht (h k' h6) (by simp only [List.length_cons]; omega)
      · exact h k hk
theorem setP_ht {l : List (List E)} {n : Nat} (h : ∀ p ∈ l, p.length ≤ n + 1) : (setP l).Ht (n + 1) := by
  have : ∀ (l : List (List E)) (s : St), (∀ p ∈ l, p.length ≤ n + 1) → s.Ht (n + 1) → (l.foldl (fun s p => St.ins p s) s).Ht (n + 1) := by
    intro l
    induction l with
    | nil => exact fun s _ h => h
    | cons p l ih => exact fun s h hs => ih _ (fun q hq => h q (List.mem_cons_of_mem _ hq)) (ins_ht hs (h p (by simp)))
  exact this l _ h (St.Ht.empty_ n)
/-- a row's shorter beginning is still there where the longer one is -/
theorem own_shorter {w3 w4 : World} {B : Nat} {e : TypeId} {k n : Nat} {v v' : Value} {us cs : List Value} (h3 : w3.ownsRow B e k v n us) (h3' : w3.ownsRow B e k v' (n + 1) (us ++ cs)) (h4 : w4.ownsRow B e k v' (n + 1) (us ++ cs)) (hb : ∀ b, v.ownBlock = some b → v'.ownBlock ≠ some b → w4.heap[b]? = w3.heap[b]?) : w4.ownsRow B e k v n us := by
  obtain ⟨hl, ⟨rfl, rfl⟩ | ⟨g, c, cur, rfl, q1, q2, q3, q4, q5, q6⟩⟩ := h3
  · rw [Nat.zero_mul] at hl
    rw [List.eq_nil_of_length_eq_zero hl]
    exact World.ownsRow_nil _ _ _ _
  · by_cases hv : v'.ownBlock = some g
    · obtain ⟨hl', ⟨-, h0⟩ | ⟨g', c', cur', rfl, r1, r2, r3, r4, r5, r6⟩⟩ := h3'
      · omega
      · obtain ⟨-, ⟨-, h0⟩ | ⟨g2, c2, cur2, e2, s1, s2, s3, s4, s5, s6⟩⟩ := h4
        · omega
        · cases e2
          cases hv
          rw [q2] at r2
          cases r2
          refine ⟨hl, .inr ⟨_, c, cur2, rfl, q1, s2, q3, q4, by rw [s5, ← r5, q5], ?_⟩⟩
          have : (cur2.toList.take ((n + 1) * k)).take (n * k) = (us ++ cs).take (n * k) := by rw [s6]
          rw [List.take_take, List.take_left' hl, Nat.min_eq_left (by rw [Nat.add_mul]; omega)] at this
          exact this
    · exact ⟨hl, .inr ⟨g, c, cur, rfl, q1, (hb g rfl hv).trans q2, q3, q4, q5, q6⟩⟩

/-- what is asked of a closure that is called for each path: J what it has done, K its blocks, B where blocks may change -/
structure Clos (fid : FuncId) (cap : Array Value) (J : List (List E) → (Nat → Prop) → World → Prop) (B N M : Nat) : Prop where
  enter : ∀ (args : Array Value) (W : World), (callFunc fid args).run Tryz.prog W = .ok (.enter fid args) W
  keep : ∀ {vis : List (List E)} {K : Nat → Prop} {W W' : World}, J vis K W → Work (fun b => ¬ K b ∧ B ≤ b) W W' → J vis K W'
  lt : ∀ {vis : List (List E)} {K : Nat → Prop} {W : World}, J vis K W → ∀ b, K b → b < W.heap.size
  base : ∀ {vis : List (List E)} {K : Nat → Prop} {W : World}, J vis K W → B ≤ W.heap.size
  step : ∀ {vis : List (List E)} {K G : Nat → Prop} {W : World} {p : List E} {A : Option Addr} {c : Nat}, J vis K W → PPathAt G W p A c → (∀ b, G b → b < W.heap.size) → vis.length < M → p.length ≤ N →
    Calls Tryz.prog fid (#[.slice A p.length c] ++ cap) W fun en W' => en = .returned (.tuple #[]) ∧ ∃ K', J (vis ++ [p]) K' W' ∧ (∀ b, K' b → K b ∨ W.heap.size ≤ b) ∧ Work K W W'

/-- the paths below a prefix were visited -/
def IterPost (J : List (List E) → (Nat → Prop) → World → Prop) (B : Nat) (w : World) (vis : List (List E)) (K : Nat → Prop) (pv : Value) (n : Nat) (us : List Value) (add : List (List E)) (en : Ending) (w' : World) : Prop :=
  en = .returned (.tuple #[]) ∧ ∃ K', J (vis ++ add) K' w' ∧ (∀ b, K' b → K b ∨ w.heap.size ≤ b) ∧ Work (fun b => K b ∨ pv.ownBlock = some b) w w' ∧ w'.ownsRow B 96 4 pv n us

/-- in the midst of the members -/
def ItJ (J : List (List E) → (Nat → Prop) → World → Prop) (B : Nat) (w : World) (vis : List (List E)) (K : Nat → Prop) (pv : Value) (pre : List E) (us : List Value) (fv : Value) (es : List E) (W : World) : Prop :=
  ∃ K', J (vis ++ es.map (fun e => pre ++ [e])) K' W ∧ (∀ b, K' b → K b ∨ w.heap.size + 2 ≤ b) ∧ Work (fun b => K b ∨ pv.ownBlock = some b) w W ∧ w.heap.size + 2 ≤ W.heap.size ∧ W.ownsRow B 96 4 pv pre.length us ∧
    Bk W w.heap.size 125 #[pv] ∧ Bk W (w.heap.size + 1) 124 #[fv]

def ItS (a b h : Nat) (u v c0 c1 c2 c3 : Value) (W : World) : Prop := W.cell? ⟨a, 0, none⟩ = some u ∧ W.cell? ⟨b, 0, none⟩ = some v ∧ W.cell? ⟨h, 0, none⟩ = some c0 ∧ W.cell? ⟨h, 1, none⟩ = some c1 ∧ W.cell? ⟨h, 2, none⟩ = some c2 ∧ W.cell? ⟨h, 3, none⟩ = some c3

set_option maxRecDepth 100000 in
set_option maxHeartbeats 4000000 in
theorem iterC_calls {fid : FuncId} {cap : Array Value} {J : List (List E) → (Nat → Prop) → World → Prop} {B N M : Nat} (C : Clos fid cap J B N M) {w V : World} {vis : List (List E)} {K G : Nat → Prop} {pv : Value} {pre : List E} {us : List Value} {es : List E} {e : E} {cs : List Value}
    (h : ItJ J B w vis K pv pre us (.func (.func fid) #[] cap) es V) (hG : ∀ b, G b → b < w.heap.size ∧ ¬ K b ∧ pv.ownBlock ≠ some b) (hK : ∀ b, K b → b < w.heap.size) (hpb : ∀ b, pv.ownBlock = some b → b < w.heap.size ∧ ¬ K b) (hus : Cells 4 (PEAt G w) pre us) (he : PEAt G w e cs) (hn : pre.length + 1 ≤ N) (hN : N * 168 ≤ R47) (hM : vis.length + es.length < M) :
    Calls Tryz.prog 195 (#[.agg cs.toArray] ++ #[.pointer (some ⟨w.heap.size + 1, 0, none⟩), .pointer (some ⟨w.heap.size, 0, none⟩)]) V fun en W' => en = .returned (.tuple #[]) ∧ ItJ J B w vis K pv pre us (.func (.func fid) #[] cap) (es ++ [e]) W' := by
  have hn' : (pre.length + 1) * 168 ≤ 140737488351232 := Nat.le_trans (Nat.mul_le_mul_right _ hn) hN
  obtain ⟨i9, hi9, hz9, hs9, hb9⟩ := info_parts pe_info
  obtain ⟨K1, hJ, hK1, hw, hsz, hown, hbp, hbf⟩ := h
  obtain ⟨c0, c1, c2, c3, rfl⟩ := he.form
  obtain ⟨PA, pc, rfl, _, _⟩ := own_form hown
  have hkV : Keeps G w V := hw.keeps fun b hb => ⟨(hG b hb).1, fun h => h.elim (hG b hb).2.1 (hG b hb).2.2⟩
  have heV := he.keeps hkV
  have husV := hus.mono fun _ _ h => h.keeps hkV
  have p0 := hbp.cell 0
  have f0 := hbf.cell 0
  simp at p0 f0
  have hpl := hbp.lt
  have hfl := hbf.lt
  have hbV := C.base hJ
  have H0 := hide (And.intro hJ (And.intro hK1 (And.intro hw (And.intro hown (And.intro hbp (And.intro hbf (And.intro heV husV)))))))
  have HG := hide (And.intro hG (And.intro hK hpb))
  clear hJ hK1 hw hown hbp hbf heV husV hkV hus he hG hK hpb hN
  go_enter Tryz.func195, Tryz.ntmps195
  go_wp2_with fail
  have hbA : Below V.heap.size V (V.alloc (.cells #[.pointer c0, .pointer c1, .pointer c2, .pointer c3] 96)) := (Below.refl _ _).alloc (Nat.le_refl _) _
  have hX := Bk.new V 96 #[.pointer c0, .pointer c1, .pointer c2, .pointer c3]
  generalize hw1 : World.alloc V _ = w1 at hbA hX ⊢
  have hsz1 : w1.heap.size = V.heap.size + 1 := by rw [← hw1, World.size_alloc]
  have ec := (bcell hbA).1
  have p1 := (ec _ _ hpl).trans p0
  have f1 := (ec _ _ hfl).trans f0
  have x0 := hX.cell 0
  have x1 := hX.cell 1
  have x2 := hX.cell 2
  have x3 := hX.cell 3
  simp at x0 x1 x2 x3
  obtain ⟨S, hS⟩ : ∃ S, ItS (w.heap.size + 1) w.heap.size V.heap.size (.func (.func fid) #[] cap) (.slice PA pre.length pc) (.pointer c0) (.pointer c1) (.pointer c2) (.pointer c3) = S := ⟨_, rfl⟩
  have hS0 : S w1.drew := by rw [← hS]; exact ⟨f1, p1, x0, x1, x2, x3⟩
  have hS1 : S (w1.alloc (.cells #[.pointer c0, .pointer c1, .pointer c2, .pointer c3] 96)).drew := by
    have ed := (bcell (below_drew ((Below.refl w1.heap.size w1).alloc (Nat.le_refl _) (.cells #[.pointer c0, .pointer c1, .pointer c2, .pointer c3] 96)))).1
    rw [← hS]
    exact ⟨(ed _ _ (by omega)).trans f1, (ed _ _ (by omega)).trans p1, (ed _ _ (by omega)).trans x0, (ed _ _ (by omega)).trans x1, (ed _ _ (by omega)).trans x2, (ed _ _ (by omega)).trans x3⟩
  have H1 := hide (And.intro hbA hS1)
  clear hw1 hbA hX ec p0 f0 p1 f1 x0 x1 x2 x3 hS1
  refine wp_region_head 5 S (by rfl) (by kernel_rfl) ?_
  refine HT.take 0 (v := ?_) rfl (by kernel_rfl) (fun _ _ _ h => h) (Or.inl ⟨by rfl, ?_⟩) (by assumption) ?_
  rotate_left
  · intro W hSw; rw [← hS] at hSw; obtain ⟨s0, s1, s2, s3, s4, s5⟩ := (show ItS (w.heap.size + 1) w.heap.size V.heap.size (.func (.func fid) #[] cap) (.slice PA pre.length pc) (.pointer c0) (.pointer c1) (.pointer c2) (.pointer c3) W from hSw); go_simp; with_reducible rfl
  simp only [Act.put, List.setIfInBounds_toArray, List.set_cons_zero, List.set_cons_succ]
  refine HT.take 1 (v := ?_) rfl (by kernel_rfl) (fun _ _ _ h => h) (Or.inl ⟨by rfl, ?_⟩) (by assumption) ?_
  rotate_left
  · intro W hSw; rw [← hS] at hSw; obtain ⟨s0, s1, s2, s3, s4, s5⟩ := (show ItS (w.heap.size + 1) w.heap.size V.heap.size (.func (.func fid) #[] cap) (.slice PA pre.length pc) (.pointer c0) (.pointer c1) (.pointer c2) (.pointer c3) W from hSw); go_simp; with_reducible rfl
  simp only [Act.put, List.setIfInBounds_toArray, List.set_cons_zero, List.set_cons_succ]
  refine HT.take 2 (v := ?_) rfl (by kernel_rfl) (fun _ _ _ h => h) (Or.inl ⟨by rfl, ?_⟩) (by assumption) ?_
  rotate_left
  · intro W hSw; rw [← hS] at hSw; obtain ⟨s0, s1, s2, s3, s4, s5⟩ := (show ItS (w.heap.size + 1) w.heap.size V.heap.size (.func (.func fid) #[] cap) (.slice PA pre.length pc) (.pointer c0) (.pointer c1) (.pointer c2) (.pointer c3) W from hSw); go_simp; with_reducible rfl
  simp only [Act.put, List.setIfInBounds_toArray, List.set_cons_zero, List.set_cons_succ]
  refine HT.one 3 rfl (by kernel_rfl) (by rfl) (fun K hK => ?_)
  go_simp
  refine hK.out _ _ H1.out.2 ?_
  clear hK K
  refine HT.one 4 rfl (by kernel_rfl) (by rfl) (fun K hK => ?_)
  have hb3 : Below V.heap.size V (w1.alloc (.cells #[.pointer c0, .pointer c1, .pointer c2, .pointer c3] 96)).drew := below_drew (H1.out.1.alloc (by omega) _)
  refine wp_append_keep (.tmp 5) (.tmp 7) 125 rfl B 96 i9 _ 4 32 Tryz.underlying125 hi9 hz9 hs9 hb9 rfl (by omega) _ pre.length us rfl (ownsRow_below H0.out.2.2.2.1 hb3 (Nat.le_refl _)) ⟨V.heap.size + 1, 0, none⟩ 1 1 [.pointer c0, .pointer c1, .pointer c2, .pointer c3] (by omega) rfl rfl (fun j u h => cells_at w1 [.pointer c0, .pointer c1, .pointer c2, .pointer c3] 96 (V.heap.size + 1) hsz1 j u h) (by simp [Value.oneCell']) (by unfold maxLen; omega) (by omega) (by show B ≤ (w1.alloc _).heap.size; rw [World.size_alloc]; omega) ?_
  intro v' w3 hown3 hg3 hat3 hkeep3
  obtain ⟨nA, nc, rfl, hnc1, hnc2⟩ := own_form hown3
  have hs3 : w1.heap.size + 1 ≤ w3.heap.size := by have : (w1.alloc _).heap.size ≤ w3.heap.size := hg3.size; rw [World.size_alloc] at this; exact this
  have hpbo : ∀ b, (Value.slice PA pre.length pc).ownBlock = some b → B ≤ b := fun b hb => (H0.out.2.2.2.1.lt b hb).1
  have hV3 : Work (fun b => (Value.slice PA pre.length pc).ownBlock = some b) V w3 :=
    ⟨hg3.os.trans hb3.os, hg3.tape.trans hb3.tape, hg3.output.trans hb3.output, by omega, fun b hb hn => by rw [hg3.block b (by show b < (w1.alloc _).heap.size; rw [World.size_alloc]; omega) (fun e => hn e.symm)]; exact hb3.block b hb⟩
  have hS3 : S w3 := by
    have hs := H1.out.2
    rw [← hS] at hs ⊢
    obtain ⟨s0, s1, s2, s3, s4, s5⟩ := hs
    have eg := (gcell hg3).1
    have hne : ∀ x, w.heap.size ≤ x → some x ≠ (Value.slice PA pre.length pc).ownBlock := fun x hx e => by have := (HG.out.2.2 x e.symm).1; omega
    have hsz3 : (w1.alloc (.cells #[.pointer c0, .pointer c1, .pointer c2, .pointer c3] 96)).drew.heap.size = w1.heap.size + 1 := by show (w1.alloc _).heap.size = _; rw [World.size_alloc]
    exact ⟨(eg _ _ (by omega) (hne _ (by omega))).trans s0, (eg _ _ (by omega) (hne _ (by omega))).trans s1, (eg _ _ (by omega) (hne _ (by omega))).trans s2, (eg _ _ (by omega) (hne _ (by omega))).trans s3, (eg _ _ (by omega) (hne _ (by omega))).trans s4, (eg _ _ (by omega) (hne _ (by omega))).trans s5⟩
  go_simp
  refine hK.out _ _ hS3 ?_
  clear hK K
  refine HT.done (by kernel_rfl) ?_
  simp only [List.drop_succ_cons, List.drop_zero]
  have hJ3 : J (vis ++ es.map (fun e => pre ++ [e])) K1 w3 := C.keep H0.out.1 ⟨hV3.os, hV3.tape, hV3.output, hV3.size, fun b hb hn => hV3.frame b hb fun e => hn ⟨fun hk => by
    have h1 := HG.out.2.2 b e
    rcases H0.out.2.1 b hk with h2 | h2
    · exact h1.2 h2
    · omega, hpbo b e⟩⟩
  have hkG : Keeps G V w3 := hV3.keeps fun b hb => ⟨by have := (HG.out.1 b hb).1; omega, (HG.out.1 b hb).2.2⟩
  have hp3 : PPathAt (fun b => G b ∨ (Value.slice nA (pre.length + 1) nc).ownBlock = some b) w3 (pre ++ [e]) nA nc := by
    have hl : (pre ++ [e]).length = pre.length + 1 := by simp
    refine ⟨by rw [hl]; unfold R47; omega, by rw [hl]; exact hnc1, hnc2, us ++ [.pointer c0, .pointer c1, .pointer c2, .pointer c3], by rw [hl]; exact Row.of_own hown3 fun b hb => .inr hb, ?_⟩
    exact Cells.append (H0.out.2.2.2.2.2.2.2.mono fun _ _ h => (h.keeps hkG).mono fun b hb => .inl hb) (Cells.one ((H0.out.2.2.2.2.2.2.1.keeps hkG).mono fun b hb => .inl hb) rfl)
  have hHC := C.step hJ3 hp3 (fun b hb => by
    rcases hb with hb | hb
    · have := (HG.out.1 b hb).1; omega
    · exact (hown3.lt b hb).2) (by rw [List.length_append, List.length_map]; exact hM) (by simp; exact hn)
  rw [show (pre ++ [e]).length = pre.length + 1 by simp] at hHC
  have HC := hide hHC
  have H3 := hide (And.intro hV3 (And.intro hkeep3 hJ3))
  have hcf := C.enter
  clear hHC hown3 hg3 hat3 hkeep3 hV3 hJ3 hkG hp3 hS0 hS hS3 hb3 H1
  go_wp2_with fail
  refine HC.out.mono ?_
  rintro en w4 ⟨rfl, K4, hJ4, hK4, hw4⟩
  have hpK1 : ∀ b, (Value.slice PA pre.length pc).ownBlock = some b → ¬ K1 b := fun b e hk => by
    have h1 := HG.out.2.2 b e
    rcases H0.out.2.1 b hk with h2 | h2
    · exact h1.2 h2
    · omega
  have hboxK : ∀ x, w.heap.size ≤ x → x < w.heap.size + 2 → ¬ K1 x := fun x h1 h2 hk => by
    rcases H0.out.2.1 x hk with h3 | h3
    · have := HG.out.2.1 x h3; omega
    · omega
  have hboxp : ∀ x, w.heap.size ≤ x → ¬ (Value.slice PA pre.length pc).ownBlock = some x := fun x h1 e => by have := (HG.out.2.2 x e).1; omega
  have hk4 : ∀ x, w.heap.size ≤ x → x < w.heap.size + 2 → w4.heap[x]? = V.heap[x]? := fun x h1 h2 => (hw4.frame x (by have := H3.out.1.size; omega) (hboxK x h1 h2)).trans (H3.out.1.frame x (by omega) (hboxp x h1))
  have Hfin := hide (show ItJ J B w vis K (.slice PA pre.length pc) pre us (.func (.func fid) #[] cap) (es ++ [e]) w4 from by
    refine ⟨K4, ?_, fun b hb => ?_, ?_, ?_, ?_, (hk4 _ (Nat.le_refl _) (by omega)).trans H0.out.2.2.2.2.1, (hk4 _ (by omega) (by omega)).trans H0.out.2.2.2.2.2.1⟩
    · rw [List.map_append, ← List.append_assoc]; exact hJ4
    · rcases hK4 b hb with h1 | h1
      · exact H0.out.2.1 b h1
      · exact .inr (by omega)
    · refine (H0.out.2.2.1.trans H3.out.1 fun x hx => .inl (.inr hx)).trans hw4 fun x hx => ?_
      rcases H0.out.2.1 x hx with h1 | h1
      · exact .inl (.inl h1)
      · exact .inr (by omega)
    · have := hw4.size; omega
    · exact ownsRow_keptB H3.out.2.1 fun b hb => hw4.frame b (H3.out.2.1.lt b hb).2 (hpK1 b hb))
  clear hJ4 hK4 hw4 hpK1 hboxK hboxp hk4
  go_wp2
  go_returns
  exact ⟨rfl, Hfin.out⟩

end Go.Proofs.YtajeghkjppkhcaaGreat

/-!
  Set.iteratePrefix of all sets; Set.Iterate; impl.fromSet, impl.MakeSet.
-/

namespace Go.Proofs.YtajeghkjppkhcaaGreat
open Go.RowKit
attribute [local go_sem] run_store_float

theorem pathsK_snoc (ks : List (E × St)) (k : E × St) : St.pathsK (ks ++ [k]) = St.pathsK ks ++ k.2.paths.map (k.1 :: ·) := by
  induction ks with
  | nil => obtain ⟨e, s⟩ := k; simp [St.pathsK]
  | cons a ks ih => obtain ⟨e, s⟩ := a; rw [List.cons_append, St.pathsK, ih, St.pathsK, List.append_assoc]
theorem pathsK_part (ks : List (E × St)) {i : Nat} {k : E × St} (hk : ks[i]? = some k) : (St.pathsK (ks.take i)).length + k.2.paths.length ≤ (St.pathsK ks).length := by
  induction ks generalizing i with
  | nil => simp at hk
  | cons a ks ih =>
    obtain ⟨e, s⟩ := a
    cases i with
    | zero =>
      simp at hk
      subst hk
      simp [St.pathsK]
    | succ i =>
      have := ih (i := i) (by simpa using hk)
      rw [List.take_succ_cons, St.pathsK, St.pathsK, List.length_append, List.length_append]
      omega

/-- a set's paths are visited in order -/
structure IterOK (fid : FuncId) (cap : Array Value) (J : List (List E) → (Nat → Prop) → World → Prop) (B N M : Nat) (s : St) : Prop where
  run : ∀ {w : World} {g h : Nat} {pre : List E} {us : List Value} {pv : Value} {vis : List (List E)} {K G : Nat → Prop}, SetR G w g s → (∀ b, G b → b < w.heap.size ∧ ¬ K b ∧ pv.ownBlock ≠ some b) → J vis K w → w.ownsRow B 96 4 pv pre.length us → Cells 4 (PEAt G w) pre us → (∀ b, pv.ownBlock = some b → ¬ K b) →
    s.Ht h → pre.length + h ≤ N → vis.length + s.paths.length ≤ M →
    Calls Tryz.prog 165 #[.pointer (some ⟨g, 0, none⟩), pv, .func (.func fid) #[] cap] w (IterPost J B w vis K pv pre.length us (s.paths.map (pre ++ ·)))

/-- at the head of a round over what goes on -/
def KLInv (J : List (List E) → (Nat → Prop) → World → Prop) (B : Nat) (w : World) (vis : List (List E)) (K : Nat → Prop) (pv : Value) (pre : List E) (us : List Value) (ks : List (E × St)) (s : Value) (W : World) : Prop :=
  ∃ (k : Nat) (K' : Nat → Prop), s = .int .i64 (k : Int) ∧ k ≤ ks.length ∧ J (vis ++ (St.pathsK (ks.take k)).map (pre ++ ·)) K' W ∧ (∀ b, K' b → K b ∨ w.heap.size ≤ b) ∧ Work (fun b => K b ∨ pv.ownBlock = some b) w W ∧ W.ownsRow B 96 4 pv pre.length us

def KLS (a h : Nat) (u c0 c1 c2 c3 : Value) (W : World) : Prop := W.cell? ⟨a, 4, none⟩ = some u ∧ W.cell? ⟨h, 0, none⟩ = some c0 ∧ W.cell? ⟨h, 1, none⟩ = some c1 ∧ W.cell? ⟨h, 2, none⟩ = some c2 ∧ W.cell? ⟨h, 3, none⟩ = some c3

set_option maxRecDepth 100000 in
set_option maxHeartbeats 4000000 in
theorem iterKids {fid : FuncId} {cap : Array Value} {J : List (List E) → (Nat → Prop) → World → Prop} {B N M : Nat} (C : Clos fid cap J B N M) (hN : N * 168 ≤ R47) {ks : List (E × St)} (ih : ∀ k ∈ ks, IterOK fid cap J B N M k.2)
    {w : World} {g h : Nat} {KA : Option Addr} {kc : Nat} {ys : List Value} {Gs : Nat → Nat} {pre : List E} {us : List Value} {pv : Value} {vis : List (List E)} {K G : Nat → Prop} (m0 : w.cell? ⟨g, 1, none⟩ = some (.slice KA ks.length kc)) (hgl : g < w.heap.size) (hk47 : ks.length * 40 ≤ R47) (hrow : Row G w 5 KA ks.length ys)
    (hkid : ∀ (i : Nat) k, ks[i]? = some k → KidAt G w k.1 (Gs i) ((ys.drop (i * 5)).take 5)) (hset : ∀ (i : Nat) k, ks[i]? = some k → SetR G w (Gs i) k.2)
    (hG : ∀ b, G b → b < w.heap.size ∧ ¬ K b ∧ pv.ownBlock ≠ some b) (hJ : J vis K w) (hown : w.ownsRow B 96 4 pv pre.length us) (hus : Cells 4 (PEAt G w) pre us) (hpb : ∀ b, pv.ownBlock = some b → ¬ K b)
    (hht : ∀ k ∈ ks, k.2.Ht h) (hn : ks ≠ [] → pre.length + 1 + h ≤ N) (hM : vis.length + (St.pathsK ks).length ≤ M) :
    Calls Tryz.prog 196 #[.pointer (some ⟨g, 1, none⟩), pv, .func (.func fid) #[] cap] w (IterPost J B w vis K pv pre.length us ((St.pathsK ks).map (pre ++ ·))) := by
  have hk47' : ks.length * 40 ≤ 140737488351232 := hk47
  obtain ⟨i9, hi9, hz9, hs9, hb9⟩ := info_parts pe_info
  obtain ⟨PA, pc, rfl, _, _⟩ := own_form hown
  have hpl := hown.lt
  have hKl := C.lt hJ
  have hBw := C.base hJ
  have H0 := hide (And.intro hrow (And.intro hkid (And.intro hset (And.intro hG (And.intro hJ (And.intro hown (And.intro hus (And.intro hpb (And.intro hht (And.intro hpl hKl))))))))))
  have Hih := hide ih
  have Hn := hide (And.intro hn hM)
  clear hrow hkid hset hG hJ hown hus hpb hht hpl hKl ih hk47 hn hM
  go_enter Tryz.func196, Tryz.ntmps196
  go_wp2_with fail
  go_loopw [14] (fun s W => KLInv J B w vis K (.slice PA pre.length pc) pre us ks s W) (fun s _ => ks.length - (intOf s).toNat)
  case atStart => exact ⟨0, K, rfl, Nat.zero_le _, by simpa [St.pathsK] using H0.out.2.2.2.2.1, fun b hb => .inl hb, Work.refl _ _, H0.out.2.2.2.2.2.1⟩
  case round =>
    obtain ⟨k, K1, rfl, hk, hJ, hK1, hw, hown⟩ := hrel
    by_cases hlt : k < ks.length
    · have hki0 : (0 : Int) ≤ (k : Int) := Int.natCast_nonneg _
      have hki1 : (k : Int) < (ks.length : Int) := by omega
      have hlk : ks[k]? = some ks[k] := List.getElem?_eq_getElem hlt
      have hsn : St.pathsK (ks.take (k + 1)) = St.pathsK (ks.take k) ++ (ks[k]).2.paths.map ((ks[k]).1 :: ·) := by rw [List.take_succ_eq_append_getElem hlt, pathsK_snoc]
      have hpart := pathsK_part ks hlk
      have hkid := H0.out.2.1 k _ hlk
      have hset := H0.out.2.2.1 k _ hlk
      have hih := Hih.out ks[k] (List.getElem_mem hlt)
      have hht := H0.out.2.2.2.2.2.2.2.2.1 ks[k] (List.getElem_mem hlt)
      generalize ks[k] = kd at *
      obtain ⟨e, t⟩ := kd
      simp only at hkid hset hih hht hsn hpart
      generalize hcs : (ys.drop (k * 5)).take 5 = fcs at hkid
      obtain ⟨q0, q1, q2, q3, rfl, hpe⟩ := hkid
      obtain ⟨c0, c1, c2, c3, ee⟩ := hpe.form
      cases ee
      obtain ⟨rb, ro, rfl, hFr, hc⟩ := rown_at H0.out.1 hlt hcs
      have hkG : Keeps G w wr := hw.keeps fun b hb => ⟨(H0.out.2.2.2.1 b hb).1, fun h => h.elim (H0.out.2.2.2.1 b hb).2.1 (H0.out.2.2.2.1 b hb).2.2⟩
      have er : ∀ o v, w.cell? ⟨rb, o, none⟩ = some v → wr.cell? ⟨rb, o, none⟩ = some v := fun o v h => (World.cell?_of_block (hkG rb hFr)).trans h
      have r0 := er _ _ (hc 0 _ rfl)
      have r1 := er _ _ (hc 1 _ rfl)
      have r2 := er _ _ (hc 2 _ rfl)
      have r3 := er _ _ (hc 3 _ rfl)
      have r4 := er _ _ (hc 4 _ rfl)
      rw [Nat.add_zero] at r0
      have hrbl : rb < w.heap.size := (H0.out.2.2.2.1 rb hFr).1
      have hnk : ks ≠ [] := by intro e; rw [e] at hlt; simp at hlt
      have hn2 := Hn.out.1 hnk
      have hN2 : (pre.length + 1) * 168 ≤ 140737488351232 := Nat.le_trans (Nat.mul_le_mul_right _ (by omega)) hN
      have hws := hw.size
      have hBr := C.base hJ
      have Hq := hide (And.intro hJ (And.intro hK1 (And.intro hw (And.intro hown (And.intro hsn (And.intro hpart (And.intro hset (And.intro hih (And.intro hht (And.intro hpe hkG))))))))))
      clear hJ hK1 hw hown hsn hpart hset hih hht hpe hkG hcs hc er hFr hlk hnk
      obtain ⟨wo, hwo⟩ : ∃ W, W = wr := ⟨_, rfl⟩
      subst hwo
      go_upto_region 4 with fail
      have hbA : Below wo.heap.size wo ((wo.alloc (.cells #[.pointer c0, .pointer c1, .pointer c2, .pointer c3, .pointer (some ⟨Gs k, 0, none⟩)] 186)).alloc (.cells #[.pointer c0, .pointer c1, .pointer c2, .pointer c3] 96)) := below_two wo _ _
      have hX := (Bk.new wo 186 #[.pointer c0, .pointer c1, .pointer c2, .pointer c3, .pointer (some ⟨Gs k, 0, none⟩)]).alloc (.cells #[.pointer c0, .pointer c1, .pointer c2, .pointer c3] 96)
      have hY := Bk.new (wo.alloc (.cells #[.pointer c0, .pointer c1, .pointer c2, .pointer c3, .pointer (some ⟨Gs k, 0, none⟩)] 186)) 96 #[.pointer c0, .pointer c1, .pointer c2, .pointer c3]
      rw [World.size_alloc] at hY
      clear r0 r1 r2 r3 r4
      generalize hw1 : World.alloc (World.alloc wo _) _ = w1 at hbA hX hY ⊢
      have hsz1 : w1.heap.size = wo.heap.size + 2 := by rw [← hw1, World.size_alloc, World.size_alloc]
      have x4 := hX.cell 4
      have y0 := hY.cell 0
      have y1 := hY.cell 1
      have y2 := hY.cell 2
      have y3 := hY.cell 3
      simp at x4 y0 y1 y2 y3
      obtain ⟨S, hS⟩ : ∃ S, KLS wo.heap.size (wo.heap.size + 1) (.pointer (some ⟨Gs k, 0, none⟩)) (.pointer c0) (.pointer c1) (.pointer c2) (.pointer c3) = S := ⟨_, rfl⟩
      have hS0 : S w1.drew := by rw [← hS]; exact ⟨x4, y0, y1, y2, y3⟩
      have hS1 : S (w1.alloc (.cells #[.pointer c0, .pointer c1, .pointer c2, .pointer c3] 96)).drew := by
        have ed := (bcell (below_drew ((Below.refl w1.heap.size w1).alloc (Nat.le_refl _) (.cells #[.pointer c0, .pointer c1, .pointer c2, .pointer c3] 96)))).1
        rw [← hS]
        exact ⟨(ed _ _ (by omega)).trans x4, (ed _ _ (by omega)).trans y0, (ed _ _ (by omega)).trans y1, (ed _ _ (by omega)).trans y2, (ed _ _ (by omega)).trans y3⟩
      have H1 := hide (And.intro hbA hS1)
      clear hw1 hbA hX hY x4 y0 y1 y2 y3 hS1
      refine wp_region_head 7 S (by rfl) (by kernel_rfl) ?_
      refine HT.take 0 (v := ?_) rfl (by kernel_rfl) (fun _ _ _ h => h) (Or.inl ⟨by rfl, ?_⟩) (by assumption) ?_
      rotate_left
      · intro W hSw; rw [← hS] at hSw; obtain ⟨s0, s1, s2, s3, s4⟩ := (show KLS wo.heap.size (wo.heap.size + 1) (.pointer (some ⟨Gs k, 0, none⟩)) (.pointer c0) (.pointer c1) (.pointer c2) (.pointer c3) W from hSw); go_simp; with_reducible rfl
      simp only [Act.put, List.setIfInBounds_toArray, List.set_cons_zero, List.set_cons_succ]
      refine HT.take 1 (v := ?_) rfl (by kernel_rfl) (fun _ _ _ h => h) (Or.inl ⟨by rfl, ?_⟩) (by assumption) ?_
      rotate_left
      · intro W hSw; rw [← hS] at hSw; obtain ⟨s0, s1, s2, s3, s4⟩ := (show KLS wo.heap.size (wo.heap.size + 1) (.pointer (some ⟨Gs k, 0, none⟩)) (.pointer c0) (.pointer c1) (.pointer c2) (.pointer c3) W from hSw); go_simp; with_reducible rfl
      simp only [Act.put, List.setIfInBounds_toArray, List.set_cons_zero, List.set_cons_succ]
      refine HT.take 2 (v := ?_) rfl (by kernel_rfl) (fun _ _ _ h => h) (Or.inl ⟨by rfl, ?_⟩) (by assumption) ?_
      rotate_left
      · intro W hSw; rw [← hS] at hSw; obtain ⟨s0, s1, s2, s3, s4⟩ := (show KLS wo.heap.size (wo.heap.size + 1) (.pointer (some ⟨Gs k, 0, none⟩)) (.pointer c0) (.pointer c1) (.pointer c2) (.pointer c3) W from hSw); go_simp; with_reducible rfl
      simp only [Act.put, List.setIfInBounds_toArray, List.set_cons_zero, List.set_cons_succ]
      refine HT.take 3 (v := ?_) rfl (by kernel_rfl) (fun _ _ _ h => h) (Or.inl ⟨by rfl, ?_⟩) (by assumption) ?_
      rotate_left
      · intro W hSw; rw [← hS] at hSw; obtain ⟨s0, s1, s2, s3, s4⟩ := (show KLS wo.heap.size (wo.heap.size + 1) (.pointer (some ⟨Gs k, 0, none⟩)) (.pointer c0) (.pointer c1) (.pointer c2) (.pointer c3) W from hSw); go_simp; with_reducible rfl
      simp only [Act.put, List.setIfInBounds_toArray, List.set_cons_zero, List.set_cons_succ]
      refine HT.take 6 (v := ?_) rfl (by kernel_rfl) (fun _ _ _ h => h) (Or.inl ⟨by rfl, ?_⟩) (by assumption) ?_
      rotate_left
      · intro W hSw; rw [← hS] at hSw; obtain ⟨s0, s1, s2, s3, s4⟩ := (show KLS wo.heap.size (wo.heap.size + 1) (.pointer (some ⟨Gs k, 0, none⟩)) (.pointer c0) (.pointer c1) (.pointer c2) (.pointer c3) W from hSw); go_simp; with_reducible rfl
      simp only [Act.put, List.setIfInBounds_toArray, List.set_cons_zero, List.set_cons_succ]
      refine HT.one 4 rfl (by kernel_rfl) (by rfl) (fun K hK => ?_)
      go_simp
      refine hK.out _ _ H1.out.2 ?_
      clear hK K
      refine HT.one 5 rfl (by kernel_rfl) (by rfl) (fun K hK => ?_)
      have hb3 : Below wo.heap.size wo (w1.alloc (.cells #[.pointer c0, .pointer c1, .pointer c2, .pointer c3] 96)).drew := below_drew (H1.out.1.alloc (by omega) _)
      refine wp_append_keep (.tmp 22) (.tmp 24) 125 rfl B 96 i9 _ 4 32 Tryz.underlying125 hi9 hz9 hs9 hb9 rfl (by omega) _ pre.length us rfl (ownsRow_below Hq.out.2.2.2.1 hb3 (Nat.le_refl _)) ⟨wo.heap.size + 2, 0, none⟩ 1 1 [.pointer c0, .pointer c1, .pointer c2, .pointer c3] (by omega) rfl rfl (fun j u h => cells_at w1 [.pointer c0, .pointer c1, .pointer c2, .pointer c3] 96 (wo.heap.size + 2) hsz1 j u h) (by simp [Value.oneCell']) (by unfold maxLen; omega) (by omega) (by show B ≤ (w1.alloc _).heap.size; rw [World.size_alloc]; omega) ?_
      intro v' w3 hown3 hg3 hat3 hkeep3
      obtain ⟨nA, nc, rfl, hnc1, hnc2⟩ := own_form hown3
      have hs3 : w1.heap.size + 1 ≤ w3.heap.size := by have : (w1.alloc _).heap.size ≤ w3.heap.size := hg3.size; rw [World.size_alloc] at this; exact this
      have hpbw : ∀ b, (Value.slice PA pre.length pc).ownBlock = some b → B ≤ b ∧ b < w.heap.size ∧ ¬ K1 b := fun b hb => by
        have h1 := H0.out.2.2.2.2.2.2.2.2.2.1 b hb
        refine ⟨h1.1, h1.2, fun h2 => ?_⟩
        rcases Hq.out.2.1 b h2 with h3 | h3
        · exact H0.out.2.2.2.2.2.2.2.1 b hb h3
        · omega
      have hV3 : Work (fun b => (Value.slice PA pre.length pc).ownBlock = some b) wo w3 :=
        ⟨hg3.os.trans hb3.os, hg3.tape.trans hb3.tape, hg3.output.trans hb3.output, by omega, fun b hb hn => by rw [hg3.block b (by show b < (w1.alloc _).heap.size; rw [World.size_alloc]; omega) (fun e => hn e.symm)]; exact hb3.block b hb⟩
      have hS3 : S w3 := by
        have hs := H1.out.2
        rw [← hS] at hs ⊢
        obtain ⟨s0, s1, s2, s3, s4⟩ := hs
        have eg := (gcell hg3).1
        have hne : ∀ x, w.heap.size ≤ x → some x ≠ (Value.slice PA pre.length pc).ownBlock := fun x hx e => by have := (hpbw x e.symm).2.1; omega
        have hsz3 : (w1.alloc (.cells #[.pointer c0, .pointer c1, .pointer c2, .pointer c3] 96)).drew.heap.size = w1.heap.size + 1 := by show (w1.alloc _).heap.size = _; rw [World.size_alloc]
        exact ⟨(eg _ _ (by omega) (hne _ (by omega))).trans s0, (eg _ _ (by omega) (hne _ (by omega))).trans s1, (eg _ _ (by omega) (hne _ (by omega))).trans s2, (eg _ _ (by omega) (hne _ (by omega))).trans s3, (eg _ _ (by omega) (hne _ (by omega))).trans s4⟩
      go_simp
      refine hK.out _ _ hS3 ?_
      clear hK K
      refine HT.done (by kernel_rfl) ?_
      simp only [List.drop_succ_cons, List.drop_zero]
      have hl1 : (pre ++ [e]).length = pre.length + 1 := by simp
      have hK1l := C.lt Hq.out.1
      have hJ3 := C.keep (W' := w3) Hq.out.1 ⟨hV3.os, hV3.tape, hV3.output, hV3.size, fun b hb hn => hV3.frame b hb fun e => hn ⟨(hpbw b e).2.2, (hpbw b e).1⟩⟩
      have hvo : ∀ b, (Value.slice nA (pre.length + 1) nc).ownBlock = some b → (Value.slice PA pre.length pc).ownBlock = some b ∨ wo.heap.size ≤ b := fun b hb => by
        have hat3' : (Value.slice nA (pre.length + 1) nc).ownBlock = (Value.slice PA pre.length pc).ownBlock ∨ (Value.slice nA (pre.length + 1) nc).ownBlock = some (w1.alloc (.cells #[.pointer c0, .pointer c1, .pointer c2, .pointer c3] 96)).drew.heap.size := hat3
        rcases hat3' with e1 | e1
        · exact .inl (e1.symm.trans hb)
        · have e2 := Option.some.inj (e1.symm.trans hb)
          exact .inr (by rw [← e2]; show wo.heap.size ≤ (w1.alloc _).heap.size; rw [World.size_alloc]; omega)
      have hkG3 : Keeps G w w3 := Hq.out.2.2.2.2.2.2.2.2.2.2.trans (hV3.keeps fun b hb => ⟨by have := (H0.out.2.2.2.1 b hb).1; omega, (H0.out.2.2.2.1 b hb).2.2⟩)
      have hGK : ∀ b, G b → ¬ K1 b := fun b hb h1 => by
        rcases Hq.out.2.1 b h1 with h2 | h2
        · exact (H0.out.2.2.2.1 b hb).2.1 h2
        · have := (H0.out.2.2.2.1 b hb).1; omega
      have hHC := Hq.out.2.2.2.2.2.2.2.1.run (h := h) (pre := pre ++ [e]) (us := us ++ [.pointer c0, .pointer c1, .pointer c2, .pointer c3]) (pv := .slice nA (pre.length + 1) nc) (Hq.out.2.2.2.2.2.2.1.keeps hkG3)
        (fun b hb => ⟨by have := (H0.out.2.2.2.1 b hb).1; omega, hGK b hb, fun e1 => by
          rcases hvo b e1 with h1 | h1
          · exact (H0.out.2.2.2.1 b hb).2.2 h1
          · have := (H0.out.2.2.2.1 b hb).1; omega⟩) hJ3 (by rw [hl1]; exact hown3)
        (Cells.append (H0.out.2.2.2.2.2.2.1.mono fun _ _ h => h.keeps hkG3) (Cells.one (Hq.out.2.2.2.2.2.2.2.2.2.1.keeps hkG3) rfl))
        (fun b hb h1 => by
          rcases hvo b hb with h2 | h2
          · exact (hpbw b h2).2.2 h1
          · have := hK1l b h1; omega)
        Hq.out.2.2.2.2.2.2.2.2.1 (by rw [hl1]; exact hn2) (by rw [List.length_append, List.length_map]; have := Hn.out.2; have := Hq.out.2.2.2.2.2.1; omega)
      rw [hl1] at hHC
      have HC := hide hHC
      have H3 := hide (And.intro hV3 (And.intro hkeep3 (And.intro hown3 (And.intro hpbw hvo))))
      clear hHC hown3 hg3 hat3 hkeep3 hV3 hJ3 hkG3 hS0 hS hS3 hb3 H1 hpbw hvo hGK hK1l hl1
      go_wp2_with fail
      refine HC.out.mono ?_
      rintro en w4 ⟨rfl, K4, hJ4, hK4, hw4, hown4⟩
      have e5 : vis ++ (St.pathsK (ks.take (k + 1))).map (pre ++ ·) = (vis ++ (St.pathsK (ks.take k)).map (pre ++ ·)) ++ t.paths.map ((pre ++ [e]) ++ ·) := by
        rw [Hq.out.2.2.2.2.1, List.map_append, List.append_assoc, List.map_map]
        congr 2
        exact List.map_congr_left fun p _ => by simp
      have Hfin := hide (show KLInv J B w vis K (.slice PA pre.length pc) pre us ks (.int .i64 ((k + 1 : Nat) : Int)) w4 from by
        refine ⟨k + 1, K4, rfl, by omega, by rw [e5]; exact hJ4, fun b hb => ?_, ?_, ?_⟩
        · rcases hK4 b hb with h1 | h1
          · exact Hq.out.2.1 b h1
          · exact .inr (by have := H3.out.1.size; omega)
        · refine (Hq.out.2.2.1.trans H3.out.1 fun x hx => .inl (.inr hx)).trans hw4 fun x hx => ?_
          rcases hx with hx | hx
          · rcases Hq.out.2.1 x hx with h1 | h1
            · exact .inl (.inl h1)
            · exact .inr h1
          · rcases H3.out.2.2.2.2 x hx with h1 | h1
            · exact .inl (.inr h1)
            · exact .inr (by omega)
        · exact own_shorter H3.out.2.1 H3.out.2.2.1 hown4 fun b hb hne => hw4.frame b (H3.out.2.1.lt b hb).2 fun h1 => h1.elim (H3.out.2.2.2.1 b hb).2.2 hne)
      clear hJ4 hK4 hw4 hown4 e5
      go_wp2_with fail
      exact ⟨Hfin.out, by simp [intOf]; omega⟩
    · have hke : k = ks.length := by omega
      subst hke
      have hki1 : ¬ ((ks.length : Nat) : Int) < (ks.length : Int) := by omega
      rw [List.take_length] at hJ
      have H3 := hide (And.intro hJ (And.intro hK1 (And.intro hw hown)))
      clear hJ hK1 hw hown hlt
      go_wp2
      go_returns
      exact ⟨rfl, K1, H3.out.1, H3.out.2.1, H3.out.2.2.1, H3.out.2.2.2⟩

theorem paths_mk (m : List E) (ks : List (E × St)) : (St.mk m ks).paths = m.map (fun e => [e]) ++ St.pathsK ks := by rw [St.paths]

set_option maxRecDepth 100000 in
set_option maxHeartbeats 4000000 in
theorem iterSet {fid : FuncId} {cap : Array Value} {J : List (List E) → (Nat → Prop) → World → Prop} {B N M : Nat} (C : Clos fid cap J B N M) (hN : N * 168 ≤ R47) {m : List E} {ks : List (E × St)} (ih : ∀ k ∈ ks, IterOK fid cap J B N M k.2) : IterOK fid cap J B N M (.mk m ks) := by
  constructor
  intro w g h pre us pv vis K G hs hG hJ hown hus hpb hht hn hM
  cases hs with
  | @mk _ _ _ MA KA mc kc xs ys Gs h1 h2 h3 h4 h5 h6 h7 h8 h9 h10 h11 h12 h13 =>
  cases hht with
  | @mk h _ _ hht =>
  rw [paths_mk, List.length_append, List.length_map] at hM
  obtain ⟨PA, pc, rfl, _, _⟩ := own_form hown
  have hpl := hown.lt
  have hKl := C.lt hJ
  have hBw := C.base hJ
  have hb2 : Below w.heap.size w ((w.alloc (.cells #[.slice PA pre.length pc] 125)).alloc (.cells #[.func (.func fid) #[] cap] 124)) := below_two w _ _
  have hX := (Bk.new w 125 #[.slice PA pre.length pc]).alloc (.cells #[.func (.func fid) #[] cap] 124)
  have hY := Bk.new (w.alloc (.cells #[.slice PA pre.length pc] 125)) 124 #[.func (.func fid) #[] cap]
  rw [World.size_alloc] at hY
  have hsz2 : ((w.alloc (.cells #[.slice PA pre.length pc] 125)).alloc (.cells #[.func (.func fid) #[] cap] 124)).heap.size = w.heap.size + 2 := by rw [World.size_alloc, World.size_alloc]
  have hgl := h2.lt
  have g0 := h2.cell 0
  have g1 := h2.cell 1
  simp at g0 g1
  have hkA : Keeps G w ((w.alloc (.cells #[.slice PA pre.length pc] 125)).alloc (.cells #[.func (.func fid) #[] cap] 124)) := Keeps.below hb2 fun b hb => (hG b hb).1
  have hit := esIterate_calls (F := G) (o := 0) (((bcell hb2).1 g 0 hgl).trans g0) h3 (h9.keeps hkA) (h11.mono fun _ _ h => h.keeps hkA) (fun a cs h => h.form)
    195 #[.pointer (some ⟨w.heap.size + 1, 0, none⟩), .pointer (some ⟨w.heap.size, 0, none⟩)] (fun args W => by kernel_rfl)
    (ItJ J B w vis K (.slice PA pre.length pc) pre us (.func (.func fid) #[] cap))
    (by
      refine ⟨K, ?_, fun b hb => .inl hb, Work.of_below hb2, ?_, ownsRow_below hown hb2 (Nat.le_refl _), hX, hY⟩
      · simpa using C.keep hJ ⟨hb2.os, hb2.tape, hb2.output, hb2.size, fun b hb _ => hb2.block b hb⟩
      · omega)
    (fun es W hI => by
      obtain ⟨K1, i1, i2, i3, i4, i5, i6, i7⟩ := hI
      intro b hb
      rw [i3.frame b (hG b hb).1 fun h => h.elim (hG b hb).2.1 (hG b hb).2.2, hb2.block b (hG b hb).1])
    (fun es W o hI => by
      obtain ⟨K1, i1, i2, i3, i4, i5, i6, i7⟩ := hI
      have hbo : Below W.heap.size W (W.alloc o) := (Below.refl _ _).alloc (Nat.le_refl _) _
      exact ⟨K1, C.keep i1 ⟨hbo.os, hbo.tape, hbo.output, hbo.size, fun b hb _ => hbo.block b hb⟩, i2, i3.trans (Work.of_below (K := fun _ => False) hbo) (fun _ h => False.elim h), by have := hbo.size; omega, ownsRow_below i5 hbo (Nat.le_refl _), i6.below hbo i6.lt, i7.below hbo i7.lt⟩)
    (fun k a cs W ha hq hI => by
      have hk := List.getElem?_eq_some_iff.1 ha
      have hk1 := hk.1
      rw [List.take_succ_eq_append_getElem hk1, hk.2]
      refine iterC_calls (N := N) (M := M) C hI hG hKl (fun b hb => ⟨(hpl b hb).2, hpb b hb⟩) hus ?_ (by omega) hN (by rw [List.length_take]; omega)
      obtain ⟨K1, i1, i2, i3, i4, i5, i6, i7⟩ := hI
      exact hq.keeps fun b hb => (hb2.block b (hG b hb).1).symm)
  have Hit := hide hit
  have H0 := hide (And.intro hG (And.intro hus (And.intro hpb (And.intro hpl hKl))))
  have H1 := hide (And.intro h4 (And.intro h10 (And.intro h12 (And.intro h13 hht))))
  have Hn := hide (And.intro hn hM)
  have Hih := hide ih
  have h1' := h1
  clear hit hG hus hpb hpl hKl h4 h10 h12 h13 hht hn hM ih h1 h2 h3 h5 h6 h7 h8 h9 h11 hb2 hX hY hkA hJ hown g0 hsz2
  go_enter Tryz.func165, Tryz.ntmps165
  go_wp2_with fail
  refine Hit.out.mono ?_
  clear Hit
  rintro en w3 ⟨rfl, K1, i1, i2, i3, i4, i5, i6, i7⟩
  have p0 := i6.cell 0
  have f0 := i7.cell 0
  have m0 : w3.cell? ⟨g, 1, none⟩ = some (.slice KA ks.length kc) := by
    exact (World.cell?_of_block (i3.frame g hgl fun h => h.elim (H0.out.1 g h1').2.1 (H0.out.1 g h1').2.2)).trans g1
  simp at p0 f0
  have hG3 : ∀ b, G b → b < w3.heap.size ∧ ¬ K1 b ∧ (Value.slice PA pre.length pc).ownBlock ≠ some b := fun b hb => by
    have h := H0.out.1 b hb
    refine ⟨by omega, fun hk => ?_, h.2.2⟩
    rcases i2 b hk with h' | h'
    · exact h.2.1 h'
    · omega
  have hk3 : Keeps G w w3.drew := fun b hb => i3.frame b (H0.out.1 b hb).1 fun h => h.elim (H0.out.1 b hb).2.1 (H0.out.1 b hb).2.2
  have i1' : J (vis ++ m.map (fun e => pre ++ [e])) K1 w3.drew := C.keep i1 ⟨rfl, rfl, rfl, Nat.le_refl _, fun _ _ _ => rfl⟩
  have hit2 := iterKids C hN Hih.out (w := w3.drew) (h := h) m0 (by show g < w3.heap.size; omega) H1.out.1 (H1.out.2.1.keeps hk3) (fun i k hk => (H1.out.2.2.1 i k hk).keeps hk3) (fun i k hk => (H1.out.2.2.2.1 i k hk).keeps hk3) hG3 i1' i5 (H0.out.2.1.mono fun _ _ h => h.keeps hk3)
    (fun b hb hk => by
      rcases i2 b hk with h' | h'
      · exact H0.out.2.2.1 b hb h'
      · have := (H0.out.2.2.2.1 b hb).2; omega) H1.out.2.2.2.2 (fun _ => by have := Hn.out.1; omega) (by have := Hn.out.2; simp; omega)
  have Hit2 := hide hit2
  have H3 := hide (And.intro i2 (And.intro i3 i4))
  clear hit2 i1 i1' i2 i3 i4 i5 i6 i7 hG3 hk3 m0 Hih H1
  go_upto_region 2 with fail
  go_still_tail 5, (by kernel_rfl)
  change wpList _ _ _ _ _ w3.drew
  go_wp2_with fail
  refine Hit2.out.mono ?_
  rintro en w4 ⟨rfl, K2, j1, j2, j3, j4⟩
  have Hfin := hide (show IterPost J B w vis K (.slice PA pre.length pc) pre.length us ((m.map (fun e => [e]) ++ St.pathsK ks).map (pre ++ ·)) (.returned (.tuple #[])) w4 from by
    refine ⟨rfl, K2, ?_, fun b hb => ?_, (H3.out.2.1.trans (K' := fun _ => False) (c := w3.drew) ⟨rfl, rfl, rfl, Nat.le_refl _, fun _ _ _ => rfl⟩ (fun _ h => False.elim h)).trans j3 fun x hx => ?_, j4⟩
    · rw [List.map_append, List.map_map, ← List.append_assoc]; exact j1
    · rcases j2 b hb with h' | h'
      · exact (H3.out.1 b h').imp id fun h => by omega
      · exact .inr (by have : w3.heap.size ≤ b := h'; have := H3.out.2.2; omega)
    · rcases hx with hx | hx
      · exact (H3.out.1 x hx).elim (fun h => .inl (.inl h)) fun h => .inr (by omega)
      · exact .inl (.inr hx))
  rw [← paths_mk] at Hfin
  clear j1 j2 j3 j4 Hit2
  go_wp2
  go_returns
  exact Hfin.out

theorem iterOK {fid : FuncId} {cap : Array Value} {J : List (List E) → (Nat → Prop) → World → Prop} {B N M : Nat} (C : Clos fid cap J B N M) (hN : N * 168 ≤ R47) : ∀ s : St, IterOK fid cap J B N M s
  | .mk m ks => iterSet C hN fun k hk => have _h := kid_lt (s := .mk m ks) hk; iterOK C hN k.2
decreasing_by exact kid_lt hk

end Go.Proofs.YtajeghkjppkhcaaGreat

/-!
  Set.Iterate, impl.fromSet, impl.MakeSet.
-/

namespace Go.Proofs.YtajeghkjppkhcaaGreat
open Go.RowKit
attribute [local go_sem] run_store_float

/-- what all steps of a set are -/
inductive St.All (P : E → Prop) : St → Prop
  | mk {m : List E} {ks : List (E × St)} : (∀ e ∈ m, P e) → (∀ k ∈ ks, P k.1) → (∀ k ∈ ks, St.All P k.2) → St.All P (.mk m ks)
theorem St.All.empty_ (P : E → Prop) : St.All P St.empty := .mk (by simp) (by simp) (by simp)
theorem ins_all {P : E → Prop} : ∀ {p : List E} {s : St}, s.All P → (∀ e ∈ p, P e) → (St.ins p s).All P
  | [], s, h, _ => h
  | [e], s, h, hp => by
    cases h with
    | mk h1 h2 h3 =>
      refine .mk (fun x hx => ?_) h2 h3
      rcases mem_insC hx with rfl | hx
      · exact hp _ (by simp)
      · exact h1 x hx
  | e :: x :: p, s, h, hp => by
    cases h with
    | mk h1 h2 h3 =>
      have hp' : ∀ y ∈ x :: p, P y := fun y hy => hp y (List.mem_cons_of_mem _ hy)
      refine .mk h1 (fun k hk => ?_) fun k hk => ?_
      · rcases mem_insK hk with rfl | ⟨k', h6, rfl⟩ | hk
        · exact hp _ (by simp)
        · exact h2 k' h6
        · exact h2 k hk
      · rcases mem_insK hk with rfl | ⟨k', h6, rfl⟩ | hk
        · exact ins_all (St.All.empty_ P) hp'
        · exact ins_all (h3 k' h6) hp'
        · exact h3 k hk
theorem paths_all {P : E → Prop} {s : St} (h : s.All P) : ∀ p ∈ s.paths, ∀ e ∈ p, P e := by
  induction h with
  | mk h1 h2 h3 ih =>
    intro p hp x hx
    rcases paths_mem.1 hp with ⟨e, he, rfl⟩ | ⟨k, hk, q, hq, rfl⟩
    · rw [List.mem_singleton.1 hx]; exact h1 e he
    · rcases List.mem_cons.1 hx with rfl | hx
      · exact h2 k hk
      · exact ih k hk q hq x hx
theorem setP_all {P : E → Prop} {l : List (List E)} (h : ∀ p ∈ l, ∀ e ∈ p, P e) : (setP l).All P := by
  have : ∀ (l : List (List E)) (s : St), (∀ p ∈ l, ∀ e ∈ p, P e) → s.All P → (l.foldl (fun s p => St.ins p s) s).All P := by
    intro l
    induction l with
    | nil => exact fun s _ h => h
    | cons p l ih => exact fun s h hs => ih _ (fun q hq => h q (List.mem_cons_of_mem _ hq)) (ins_all hs (h p (by simp)))
  exact this l _ h (St.All.empty_ P)
theorem insK_count {e : E} {f : St → St} (h : ∀ t : St, (f t).paths.length ≤ t.paths.length + 1) : ∀ ks : List (E × St), (St.pathsK (insK e f ks)).length ≤ (St.pathsK ks).length + 1
  | [] => by
    have h0 := h St.empty
    have e0 : St.empty.paths.length = 0 := by simp [St.empty, St.paths, St.pathsK]
    simp only [insK, St.pathsK, List.length_append, List.length_map, List.length_nil]
    omega
  | (a, t) :: ks => by
    have h0 := h St.empty
    have e0 : St.empty.paths.length = 0 := by simp [St.empty, St.paths, St.pathsK]
    have ht := h t
    have ih := insK_count (e := e) h ks
    rw [insK]
    split
    · rw [St.pathsK, St.pathsK, List.length_append, List.length_append]; omega
    · split
      · simp only [St.pathsK, List.length_append, List.length_map]; omega
      · simp only [St.pathsK, List.length_append, List.length_map]; omega
theorem ins_count : ∀ (p : List E) (s : St), (St.ins p s).paths.length ≤ s.paths.length + 1
  | [], s => by cases s; exact Nat.le_succ _
  | [e], .mk m ks => by
    have := insC_length (c := E.cmp) e m
    simp only [St.ins, St.paths, St.mem, St.kids, List.length_append, List.length_map]
    omega
  | e :: x :: p, .mk m ks => by
    have := insK_count (e := e) (ins_count (x :: p)) ks
    simp only [St.ins, St.paths, St.mem, St.kids, List.length_append, List.length_map]
    omega
theorem setP_count (l : List (List E)) : (setP l).paths.length ≤ l.length := by
  have : ∀ (l : List (List E)) (s : St), (l.foldl (fun s p => St.ins p s) s).paths.length ≤ s.paths.length + l.length := by
    intro l
    induction l with
    | nil => exact fun s => Nat.le_refl _
    | cons p l ih =>
      intro s
      have h1 := ih (St.ins p s)
      have h2 := ins_count p s
      rw [List.foldl_cons, List.length_cons]
      omega
  have h := this l St.empty
  have e0 : St.empty.paths.length = 0 := by simp [St.empty, St.paths, St.pathsK]
  unfold setP
  omega

set_option maxRecDepth 100000 in
theorem iterate_calls {fid : FuncId} {cap : Array Value} {J : List (List E) → (Nat → Prop) → World → Prop} {B N M : Nat} (C : Clos fid cap J B N M) (hN : N * 168 ≤ R47) {s : St} {w : World} {g h : Nat} {vis : List (List E)} {K G : Nat → Prop}
    (hs : SetR G w g s) (hG : ∀ b, G b → b < w.heap.size ∧ ¬ K b) (hJ : J vis K w) (hht : s.Ht h) (hn : h ≤ N) (hM : vis.length + s.paths.length ≤ M) :
    Calls Tryz.prog 119 #[.pointer (some ⟨g, 0, none⟩), .func (.func fid) #[] cap] w fun en w' => en = .returned (.tuple #[]) ∧ ∃ K', J (vis ++ s.paths) K' w' ∧ (∀ b, K' b → K b ∨ w.heap.size ≤ b) ∧ Work K w w' := by
  have hown0 := World.ownsRow_lit (base := B) (e := 96) (size := 4) w #[] 0 (C.base hJ) (by simp [maxLen]) (by simp)
  have hb0 : Below w.heap.size w (w.alloc (.cells #[] 96)) := (Below.refl _ _).alloc (Nat.le_refl _) _
  have hKl := C.lt hJ
  have hrun := (iterOK C hN s).run (h := h) (pre := []) (us := []) (hs.keeps (Keeps.below hb0 fun b hb => (hG b hb).1)) (fun b hb => ⟨by have := (hG b hb).1; have := hb0.size; omega, (hG b hb).2, fun e => by have e1 : w.heap.size = b := Option.some.inj e; have := (hG b hb).1; omega⟩)
    (C.keep hJ ⟨hb0.os, hb0.tape, hb0.output, hb0.size, fun b hb _ => hb0.block b hb⟩) hown0 Cells.nil_ (fun b hb hk => by have e1 : w.heap.size = b := Option.some.inj hb; have := hKl b hk; omega) hht (by simpa using hn) hM
  have H := hide hrun
  have Hb := hide hb0
  clear hrun hb0 hown0 hs hG hJ hht hn hM hKl
  go_enter Tryz.func119, Tryz.ntmps119
  go_wp2_with fail
  refine H.out.mono ?_
  rintro en w2 ⟨rfl, K2, j1, j2, j3, j4⟩
  have Hfin := hide (show ∃ K', J (vis ++ s.paths) K' w2 ∧ (∀ b, K' b → K b ∨ w.heap.size ≤ b) ∧ Work K w w2 from by
    refine ⟨K2, by simpa using j1, fun b hb => ?_, (Work.of_below Hb.out).trans j3 fun x hx => ?_⟩
    · rcases j2 b hb with h' | h'
      · exact .inl h'
      · exact .inr (by have := Hb.out.size; omega)
    · rcases hx with h' | h'
      · exact .inl h'
      · have e1 : w.heap.size = x := Option.some.inj h'
        exact .inr (by omega))
  clear j1 j2 j3 j4 H
  go_wp2
  go_returns
  exact ⟨rfl, Hfin.out⟩

theorem fromSet_clos (w0 : World) {N M : Nat} (hN : N * 168 ≤ R47) (hM : M * 24 ≤ R47) : Clos 120 #[.pointer (some ⟨w0.heap.size, 0, none⟩)] (OutP w0) w0.heap.size N M where
  enter := fun args W => by kernel_rfl
  keep := fun h hw => h.keep hw
  lt := fun h b hb => by
    obtain ⟨s, xs, h1, h2, h3, h4, h5, h6, h7⟩ := h
    exact (h7 b hb).2
  base := fun h => by
    obtain ⟨s, xs, h1, h2, h3, h4, h5, h6, h7⟩ := h
    exact h4.size
  step := fun hJ hp hG hv hpl => fromSetC_calls hJ hp hG (Nat.le_trans (Nat.mul_le_mul_right _ hv) hM) (Nat.le_trans (Nat.mul_le_mul_right _ hpl) hN)

set_option maxRecDepth 100000 in
theorem fromSet_calls {s : St} {w : World} {g h : Nat} (hs : SetR (Old w) w g s) (hht : s.Ht h) (hN : h * 168 ≤ R47) (hM : s.paths.length * 24 ≤ R47) :
    Calls Tryz.prog 69 #[.pointer (some ⟨g, 0, none⟩)] w (GivesPaths (s.paths.map (List.map E.toREl)) w) := by
  have hb0 : Below w.heap.size w (w.alloc (.cells #[.slice none 0 0] 39)) := (Below.refl _ _).alloc (Nat.le_refl _) _
  have hJ0 : OutP w [] (fun b => b = w.heap.size) (w.alloc (.cells #[.slice none 0 0] 39)) :=
    ⟨_, [], Bk.new _ _ _, World.ownsRow_nil _ _ _ _, Cells.nil_, hb0, rfl, by simp [Value.ownBlock], fun b hb => by rw [World.size_alloc]; omega⟩
  have hit := iterate_calls (fromSet_clos w hN hM) hN (hs.keeps (Keeps.below hb0 fun _ h => h)) (fun b hb => by have hb : b < w.heap.size := hb; rw [World.size_alloc]; omega) hJ0 hht (Nat.le_refl _) (by simp)
  have H := hide hit
  have Hn := hide (And.intro hM hb0)
  clear hit hJ0 hb0 hs hht hN hM
  go_enter Tryz.func69, Tryz.ntmps69
  go_wp2_with fail
  refine H.out.mono ?_
  rintro en w1 ⟨rfl, K1, ⟨v, xs, h1, h2, h3, h4, h5, h6, h7⟩, -, -⟩
  rw [List.nil_append] at h2 h3
  obtain ⟨B, d, rfl, hd1, hd2⟩ := own_form h2
  have m0 := h1.cell 0
  simp at m0
  have hlt := h2.lt
  have hlm : (s.paths.map (List.map E.toREl)).length = s.paths.length := List.length_map _
  have hfin : PathsAt (Fr w.heap.size w1) w1 (s.paths.map (List.map E.toREl)) B d :=
    ⟨by rw [hlm]; exact Hn.out.1, by rw [hlm]; exact hd1, hd2, xs, by rw [hlm]; exact Row.of_own h2 fun b hb => ⟨by have := (hlt b hb).1; omega, (hlt b hb).2⟩, h3.mono fun _ _ h => PQ.mono h fun b hb => ⟨by have := hb.1; omega, hb.2.1⟩⟩
  have Hfin := hide (And.intro hfin h4)
  have Hlm := hide hlm
  clear h1 h2 h3 h4 h5 h6 h7 hlt hfin hlm H
  go_wp2
  go_ret
  exact ⟨B, d, by rw [Hlm.out]; rfl, Hfin.out.1, Hfin.out.2⟩

end Go.Proofs.YtajeghkjppkhcaaGreat
