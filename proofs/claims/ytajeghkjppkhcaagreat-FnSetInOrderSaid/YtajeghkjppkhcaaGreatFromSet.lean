/-
  impl.fromPath; the closure of impl.fromSet. Printed by genfromset.py.
-/
import Derived.Test.YtajeghkjppkhcaaGreatSpecSetOf
import Derived.Test.YtajeghkjppkhcaaGreatElemSetX
set_option linter.unusedVariables false
set_option linter.unusedSimpArgs false
namespace Go.Proofs.YtajeghkjppkhcaaGreat
open Go.RowKit
attribute [local go_sem] run_store_float

/-- at the head of a round of fromPath -/
def FPInv (w : World) (p : List E) (s3 s9 : Value) (W : World) : Prop :=
  ∃ (k : Nat) (us : List Value), s9 = .int .i64 (k : Int) ∧ k ≤ p.length ∧ W.ownsRow w.heap.size 33 11 s3 k us ∧ Cells 11 (ElemAt (FrX w.heap.size W s3) W) ((p.take k).map E.toREl) us ∧ Below w.heap.size w W

set_option maxRecDepth 100000 in
set_option maxHeartbeats 4000000 in
theorem fromPath_calls {p : List E} {A : Option Addr} {c : Nat} {w : World} (h : PPathAt (Old w) w p A c) (hn : p.length * 168 ≤ R47) : Calls Tryz.prog 121 #[.slice A p.length c] w (GivesEls (p.map E.toREl) w) := by
  obtain ⟨h1, h2, h3, xs, h4, h5⟩ := h
  have h1' : p.length * 168 ≤ 140737488351232 := hn
  obtain ⟨i9, hi9, hz9, hs9, hb9⟩ := info_parts elem_info
  have H7 := hide (And.intro h4 h5)
  clear h1 h4 h5 hn
  go_enter Tryz.func121, Tryz.ntmps121
  go_wp2_with fail
  have hb0 : Below w.heap.size w (w.alloc (.cells #[] 33)) := (Below.refl _ _).alloc (Nat.le_refl _) _
  have hown0 := World.ownsRow_lit (base := w.heap.size) (e := 33) (size := 11) w #[] 0 (by simp) (by simp [maxLen]) (by simp)
  have H0 := hide (And.intro hb0 hown0)
  clear hb0 hown0
  go_loopw [3, 9] (fun s3 s9 W => FPInv w p s3 s9 W) (fun _ s _ => p.length - (intOf s).toNat)
  case atStart => exact ⟨0, [], rfl, Nat.zero_le _, H0.out.2, Cells.nil_, H0.out.1⟩
  case round =>
    obtain ⟨k, us, rfl, hk, hown, hus, hb⟩ := hrel
    by_cases hlt : k < p.length
    · have hki0 : (0 : Int) ≤ (k : Int) := Int.natCast_nonneg _
      have hki1 : (k : Int) < (p.length : Int) := by omega
      have hx := H7.out.2.at_ hlt
      have hsn : (p.take (k + 1)).map E.toREl = (p.take k).map E.toREl ++ [(p[k]).toREl] := by rw [List.take_succ_eq_append_getElem hlt, List.map_append]; rfl
      generalize p[k] = fx at *
      generalize hcs : (xs.drop (k * 4)).take 4 = fcs at hx
      obtain ⟨a0, a1, a2, a3, rfl⟩ := hx.form
      obtain ⟨rb, ro, rfl, hF, hc⟩ := rown_at H7.out.1 hlt hcs
      have ec := (bcell hb).1
      have m0 := (ec _ _ hF).trans (hc 0 _ rfl)
      have m1 := (ec _ _ hF).trans (hc 1 _ rfl)
      have m2 := (ec _ _ hF).trans (hc 2 _ rfl)
      have m3 := (ec _ _ hF).trans (hc 3 _ rfl)
      rw [Nat.add_zero] at m0
      have hrb : rb < w.heap.size := hF
      have HE := hide fun (W : World) (hb : Below w.heap.size w W) => fromElem_calls (hx.at_ hb)
      have Hq := hide (And.intro hown (And.intro hus (And.intro hb hsn)))
      clear hown hus hb hsn hx hcs hc ec hF
      go_wp2_with fail
      have hbA : Below wr.heap.size wr (wr.alloc (.cells #[.pointer a0, .pointer a1, .pointer a2, .pointer a3] 96)) := (Below.refl _ _).alloc (Nat.le_refl _) _
      have hbw := Hq.out.2.2.1.trans (hbA.mono Hq.out.2.2.1.size)
      refine (HE.out _ hbw).mono ?_
      rintro e w1 ⟨ps, rfl, hp, hb1⟩
      obtain ⟨e0, e1, e2, e3, e4, e5, e6, e7, e8, e9, ea, eb, ec', ed, ee, ef, eg, eh, ei, rfl⟩ := hp.form
      have hp' : ElemAt (Fr wr.heap.size w1) w1 fx.toREl [.int .i64 e0, .string e1, .slice e2 e3 e4, .slice e5 e6 e7, .int .i64 e8, .int .i64 e9, .float .f64 ea, .string eb, .slice ec' ed ee, .slice ef eg eh, .int .i64 ei] := hp.mono fun b hb => ⟨by have := hb.1; rw [World.size_alloc] at this; omega, hb.2⟩
      have hb1' : Below wr.heap.size wr w1 := hbA.trans (hb1.mono hbA.size)
      have H1 := hide (And.intro hp' hb1')
      have hs0 : w.heap.size ≤ w1.heap.size := (Hq.out.2.2.1.trans (hb1'.mono Hq.out.2.2.1.size)).size
      clear hp hp' hb1 hb1' hbA hbw m0 m1 m2 m3 HE
      obtain ⟨oA, oc, rfl, _, _⟩ := own_form Hq.out.1
      go_wp2_with (at_builtin; go_loud (refine wpList_append_row _ rfl (.tmp 13) (.tmp 16) 22 rfl w.heap.size 33 i9 _ 11 168 Tryz.underlying22 hi9 hz9 hs9 hb9 rfl (by omega) _ k us rfl ((ownsRow_below Hq.out.1 H1.out.2 (Nat.le_refl _)).alloc _) (fun _ => True) (some ⟨w1.heap.size, 0, none⟩) 1 1 [.int .i64 e0, .string e1, .slice e2 e3 e4, .slice e5 e6 e7, .int .i64 e8, .int .i64 e9, .float .f64 ea, .string eb, .slice ec' ed ee, .slice ef eg eh, .int .i64 ei] rfl (Row.of_bkp (Bk.new w1 33 ([.int .i64 e0, .string e1, .slice e2 e3 e4, .slice e5 e6 e7, .int .i64 e8, .int .i64 e9, .float .f64 ea, .string eb, .slice ec' ed ee, .slice ef eg eh, .int .i64 ei] : List Value).toArray) rfl trivial) (by simp [Value.oneCell']) (by omega) (by omega) (by rw [World.size_alloc]; omega) ?_))
      intro out' w2 hown2 hg2 hat2
      have hcs := cells_stepp (Q := fun F w a cs => ElemAt F w a cs) (a := fx.toREl) (fun h k => h.keeps k) (fun h k => h.mono k) Hq.out.1 Hq.out.2.1 Hq.out.2.2.1.size H1.out.1 rfl H1.out.2 hg2 (by rw [World.size_alloc]; exact hat2)
      have hlo := Hq.out.1.lt
      have hbf : Below w.heap.size w w2 := ((Hq.out.2.2.1.trans (H1.out.2.mono Hq.out.2.2.1.size)).alloc hs0 _).grown hg2 (by rw [World.size_alloc]; omega) fun k e => (hlo k e).1
      have Hfin := hide (And.intro hown2 (And.intro hcs (And.intro hbf Hq.out.2.2.2)))
      obtain ⟨nA, nc, rfl, _, _⟩ := own_form hown2
      clear hown2 hg2 hat2 hcs hlo hbf H1 Hq hs0
      go_wp2_with fail
      exact ⟨⟨k + 1, _, by go_num, by omega, Hfin.out.1, by rw [Hfin.out.2.2.2]; exact Hfin.out.2.1.1, Hfin.out.2.2.1⟩, by simp [intOf]; omega⟩
    · have hke : k = p.length := by omega
      subst hke
      have hki1 : ¬ ((p.length : Nat) : Int) < (p.length : Int) := by omega
      rw [List.take_of_length_le (Nat.le_refl _)] at hus
      obtain ⟨oA, oc, rfl, hc1, hc2⟩ := own_form hown
      have hlt := hown.lt
      have hfin : PathAt (Fr w.heap.size wr) wr (p.map E.toREl) oA oc := ⟨by rw [List.length_map]; unfold R47; omega, by rw [List.length_map]; exact hc1, hc2, us, by rw [List.length_map]; exact Row.of_own hown hlt, hus.mono fun a cs h => h.mono fun b hb => ⟨hb.1, hb.2.1⟩⟩
      have H3 := hide (And.intro hb hfin)
      have Hlm := hide (show (p.map E.toREl).length = p.length from List.length_map _)
      clear hb hown hus hlt hc1 hc2 hfin
      go_wp2
      go_ret
      exact ⟨oA, oc, by rw [Hlm.out]; rfl, H3.out.2, H3.out.1⟩

/-- the frame of a piece of work: what it may have written lies in K or is new -/
structure Work (K : Nat → Prop) (W W' : World) : Prop where
  os : W'.os = W.os
  tape : W'.tape = W.tape
  output : W'.output = W.output
  size : W.heap.size ≤ W'.heap.size
  frame : ∀ b, b < W.heap.size → ¬ K b → W'.heap[b]? = W.heap[b]?
theorem Work.refl (K : Nat → Prop) (W : World) : Work K W W := ⟨rfl, rfl, rfl, Nat.le_refl _, fun _ _ _ => rfl⟩
theorem Work.trans {K K' : Nat → Prop} {a b c : World} (h : Work K a b) (h' : Work K' b c) (hk : ∀ x, K' x → K x ∨ a.heap.size ≤ x) : Work K a c :=
  ⟨h'.os.trans h.os, h'.tape.trans h.tape, h'.output.trans h.output, Nat.le_trans h.size h'.size, fun x hx hn => (h'.frame x (Nat.lt_of_lt_of_le hx h.size) fun e => (hk x e).elim hn (by omega)).trans (h.frame x hx hn)⟩
theorem Work.mono {K K' : Nat → Prop} {a b : World} (h : Work K a b) (hk : ∀ x, K x → K' x) : Work K' a b := ⟨h.os, h.tape, h.output, h.size, fun x hx hn => h.frame x hx fun e => hn (hk x e)⟩
theorem Work.of_below {K : Nat → Prop} {a b : World} (h : Below a.heap.size a b) : Work K a b := ⟨h.os, h.tape, h.output, h.size, fun x hx _ => h.block x hx⟩
theorem Work.keeps {K F : Nat → Prop} {a b : World} (h : Work K a b) (hF : ∀ x, F x → x < a.heap.size ∧ ¬ K x) : Keeps F a b := fun x hx => h.frame x (hF x hx).1 (hF x hx).2
theorem Work.below {K : Nat → Prop} {B : Nat} {a b : World} (h : Work K a b) (hB : B ≤ a.heap.size) (hK : ∀ x, K x → B ≤ x) : Below B a b := ⟨h.os, h.tape, h.output, h.size, fun x hx => h.frame x (by omega) fun e => by have := hK x e; omega⟩

/-- what the closure has laid into its variable up to now; K: its blocks -/
def OutP (w0 : World) (vis : List (List E)) (K : Nat → Prop) (W : World) : Prop :=
  ∃ (s : Value) (xs : List Value), Bk W w0.heap.size 39 #[s] ∧ W.ownsRow (w0.heap.size + 1) 22 1 s vis.length xs ∧ Cells 1 (PQ (fun b => w0.heap.size + 1 ≤ b ∧ b < W.heap.size ∧ some b ≠ s.ownBlock ∧ K b) W) (vis.map (List.map E.toREl)) xs ∧ Below w0.heap.size w0 W ∧
    K w0.heap.size ∧ (∀ b, s.ownBlock = some b → K b) ∧ ∀ b, K b → w0.heap.size ≤ b ∧ b < W.heap.size
theorem OutP.keep {w0 W W' : World} {vis : List (List E)} {K : Nat → Prop} (h : OutP w0 vis K W) (hw : Work (fun b => ¬ K b ∧ w0.heap.size ≤ b) W W') : OutP w0 vis K W' := by
  obtain ⟨s, xs, h1, h2, h3, h4, h5, h6, h7⟩ := h
  have k : ∀ b, K b → W'.heap[b]? = W.heap[b]? := fun b hb => hw.frame b (h7 b hb).2 fun e => e.1 hb
  refine ⟨s, xs, (k _ h5).trans h1, ownsRow_keptB h2 fun b hb => k b (h6 b hb), h3.mono fun _ _ h => PQ.mono (PQ.keeps h fun b hb => k b hb.2.2.2) fun b hb => ⟨hb.1, Nat.lt_of_lt_of_le hb.2.1 hw.size, hb.2.2⟩, ?_, h5, h6, fun b hb => ⟨(h7 b hb).1, Nat.lt_of_lt_of_le (h7 b hb).2 hw.size⟩⟩
  exact h4.trans (hw.below h4.size fun b hb => hb.2)

set_option maxRecDepth 100000 in
set_option maxHeartbeats 4000000 in
theorem fromSetC_calls {w0 V : World} {vis : List (List E)} {K G : Nat → Prop} {p : List E} {A : Option Addr} {c : Nat} (h : OutP w0 vis K V) (hp : PPathAt G V p A c) (hG : ∀ b, G b → b < V.heap.size) (hn : (vis.length + 1) * 24 ≤ R47) (hpl : p.length * 168 ≤ R47) :
    Calls Tryz.prog 120 #[.slice A p.length c, .pointer (some ⟨w0.heap.size, 0, none⟩)] V fun en W' => en = .returned (.tuple #[]) ∧ ∃ K', OutP w0 (vis ++ [p]) K' W' ∧ (∀ b, K' b → K b ∨ V.heap.size ≤ b) ∧ Work K V W' := by
  have hn' : (vis.length + 1) * 24 ≤ 140737488351232 := hn
  obtain ⟨i9, hi9, hz9, hs9, hb9⟩ := info_parts paths_info
  obtain ⟨s, xs, hbk, hown, hxs, hb, hK0, hKs, hKb⟩ := h
  obtain ⟨B, d, rfl, _, _⟩ := own_form hown
  have HE := hide (fromPath_calls (w := V.drew) ((hp.keeps (w' := V.drew) fun _ _ => rfl).mono (G := Old V.drew) fun b hb => hG b hb) hpl)
  have hol := hbk.lt
  have o0 := hbk.cell 0
  simp at o0
  have H0 := hide (And.intro hbk (And.intro hown (And.intro hxs (And.intro hb (And.intro hK0 (And.intro hKs hKb))))))
  clear hbk hown hxs hb hp hK0 hKs hKb hG
  obtain ⟨pn, hpn⟩ : ∃ pn, (p.map E.toREl).length = pn := ⟨_, rfl⟩
  have Hpn := hide hpn
  clear hpn hpl
  go_enter Tryz.func120, Tryz.ntmps120
  go_wp2_with fail
  obtain ⟨S, hS⟩ : ∃ S : World → Prop, (fun W => W.cell? ⟨w0.heap.size, 0, none⟩ = some (.slice B vis.length d)) = S := ⟨_, rfl⟩
  have hS0 : S V.drew := by rw [← hS]; exact o0
  refine wp_region_head 4 S (by rfl) (by kernel_rfl) ?_
  refine HT.take 0 (v := ?_) rfl (by kernel_rfl) (fun _ _ _ h => h) (Or.inl ⟨by rfl, ?_⟩) (by assumption) ?_
  rotate_left
  · intro W hSw; rw [← hS] at hSw; have hSw := show W.cell? ⟨w0.heap.size, 0, none⟩ = some (.slice B vis.length d) from hSw; go_simp; with_reducible rfl
  simp only [Act.put, List.setIfInBounds_toArray, List.set_cons_zero, List.set_cons_succ]
  refine HT.take 1 (v := ?_) rfl (by kernel_rfl) (fun _ _ _ h => h) (Or.inl ⟨by rfl, ?_⟩) (by assumption) ?_
  rotate_left
  · intro W hSw; rw [← hS] at hSw; have hSw := show W.cell? ⟨w0.heap.size, 0, none⟩ = some (.slice B vis.length d) from hSw; go_simp; with_reducible rfl
  simp only [Act.put, List.setIfInBounds_toArray, List.set_cons_zero, List.set_cons_succ]
  refine HT.one 2 rfl (by kernel_rfl) (by rfl) (fun K hK => ?_)
  go_simp
  refine HE.out.mono ?_
  rintro en w2 ⟨A2, c2, rfl, hpp, hb2⟩
  rw [Hpn.out]
  have hb2' : Below V.heap.size V w2 := below_drew' hb2
  have hS2 : S w2 := by rw [← hS]; exact ((bcell hb2').1 _ _ hol).trans o0
  go_simp
  refine hK.out _ _ hS2 ?_
  clear hK K
  have hs2 := hb2'.size
  refine HT.one 3 rfl (by kernel_rfl) (by rfl) (fun K hK => ?_)
  go_simp
  refine hK.out _ _ (by
    rw [← hS] at hS2 ⊢
    exact ((bcell ((Below.refl w2.heap.size w2).alloc (Nat.le_refl _) (.cells #[.slice A2 pn c2] 22))).1 _ _ (by omega)).trans hS2) ?_
  clear hK K
  refine HT.done (by kernel_rfl) ?_
  simp only [List.drop_succ_cons, List.drop_zero]
  have hpp' : PQ (Fr V.heap.size w2) w2 (p.map E.toREl) [.slice A2 pn c2] := ⟨A2, c2, by rw [Hpn.out], hpp⟩
  have H2 := hide (And.intro hb2' hpp')
  clear hS0 hS2 hS hb2 hb2' hpp hpp' HE
  have hbase : w0.heap.size + 1 ≤ V.heap.size := hol
  go_wp2_with (at_builtin; go_loud (refine wpList_append_row _ rfl (.tmp 3) (.tmp 6) 39 rfl (w0.heap.size + 1) 22 i9 _ 1 24 Tryz.underlying39 hi9 hz9 hs9 hb9 rfl (by omega) _ vis.length xs rfl ((ownsRow_below H0.out.2.1 H2.out.1 (Nat.le_refl _)).alloc _) (fun _ => True) (some ⟨w2.heap.size, 0, none⟩) 1 1 [.slice A2 pn c2] rfl (Row.of_bkp (Bk.new w2 22 ([.slice A2 pn c2] : List Value).toArray) rfl trivial) (by simp [Value.oneCell']) (by omega) (by omega) (by rw [World.size_alloc]; omega) ?_))
  intro out' w3 hown3 hg3 hat3
  have hlo := H0.out.2.1.lt
  have hs3 : w2.heap.size + 1 ≤ w3.heap.size := by have := hg3.size; rw [World.size_alloc] at this; exact this
  have hO3 : Bk w3 w0.heap.size 39 #[.slice B vis.length d] := ((H0.out.1.below H2.out.1 hol).alloc _).grown hg3 (fun e => by have := (hlo _ e.symm).1; omega)
  obtain ⟨nA, nc, rfl, _, _⟩ := own_form hown3
  have hO4 := hO3.set_ 0 (.slice nA (vis.length + 1) nc)
  simp at hO4
  have hgr := grown2_mk (o := w0.heap.size) (i := 0) (u := .slice nA (vis.length + 1) nc) (H2.out.1.alloc hs2 _) hg3
  have hlo3 := hown3.lt
  have hwork : Work K V (w3.setCell ⟨w0.heap.size, 0, none⟩ (.slice nA (vis.length + 1) nc)) :=
    ⟨hgr.os, hgr.tape, hgr.output, hgr.size, fun b hb hn => hgr.block b hb (fun e => hn (e ▸ H0.out.2.2.2.2.1)) fun e => hn (H0.out.2.2.2.2.2.1 b e.symm)⟩
  have hkO : Keeps (fun b => w0.heap.size + 1 ≤ b ∧ b < V.heap.size ∧ some b ≠ (Value.slice B vis.length d).ownBlock ∧ K b) V (w3.setCell ⟨w0.heap.size, 0, none⟩ (.slice nA (vis.length + 1) nc)) := fun b hb => hgr.block b hb.2.1 (by have := hb.1; omega) hb.2.2.1
  have hkN : Keeps (Fr V.heap.size w2) w2 (w3.setCell ⟨w0.heap.size, 0, none⟩ (.slice nA (vis.length + 1) nc)) := by
    rintro b ⟨q1, q2⟩
    rw [Below.heap_setCell _ _ _ _ (by show b ≠ w0.heap.size; omega), hg3.block b (by rw [World.size_alloc]; omega) (fun e => by have := (hlo _ e.symm).2; omega), Below.heap_alloc _ _ _ q2]
  have hfin : OutP w0 (vis ++ [p]) (fun b => K b ∨ (V.heap.size ≤ b ∧ b < w3.heap.size)) (w3.setCell ⟨w0.heap.size, 0, none⟩ (.slice nA (vis.length + 1) nc)) := by
    refine ⟨_, _, hO4, by simpa using ownsRow_setCell_below hown3 (show w0.heap.size < w0.heap.size + 1 by omega) _, ?_, ?_, .inl H0.out.2.2.2.2.1, fun b hb => ?_, fun b hb => ?_⟩
    · rw [List.map_append, List.map_cons, List.map_nil]
      refine Cells.append (H0.out.2.2.1.mono fun _ _ h => PQ.mono (PQ.keeps h hkO) fun b hb => ⟨hb.1, by rw [(setCell_same _ _ _).2.2.2]; omega, fun e => ?_, .inl hb.2.2.2⟩) (Cells.one (PQ.mono (PQ.keeps H2.out.2 hkN) fun b hb => ⟨by have := hb.1; omega, by rw [(setCell_same _ _ _).2.2.2]; have := hb.2; omega, fun e => ?_, .inr ⟨hb.1, by have := hb.2; omega⟩⟩) rfl)
      · rcases hat3 with e' | e'
        · exact hb.2.2.1 (by rw [← e']; exact e)
        · rw [e'] at e; have e3 : b = w2.heap.size + 1 := Option.some.inj e; have := hb.2.1; omega
      · rcases hat3 with e' | e'
        · rw [e'] at e; have := (hlo b e.symm).2; have := hb.1; omega
        · rw [e'] at e; have e3 : b = w2.heap.size + 1 := Option.some.inj e; have := hb.2; omega
    · exact H0.out.2.2.2.1.trans (hwork.below H0.out.2.2.2.1.size fun b hb => (H0.out.2.2.2.2.2.2 b hb).1)
    · rcases hat3 with e' | e'
      · exact .inl (H0.out.2.2.2.2.2.1 b (by rw [← e']; exact hb))
      · exact .inr ⟨by rw [e'] at hb; have e3 : w2.heap.size + 1 = b := Option.some.inj hb; omega, (hlo3 b hb).2⟩
    · rw [(setCell_same _ _ _).2.2.2]
      rcases hb with hb | hb
      · have := H0.out.2.2.2.2.2.2 b hb; exact ⟨this.1, by omega⟩
      · exact ⟨by omega, hb.2⟩
  have q0 := hO3.cell 0
  have q1 : ∀ i, w3.frozen? ⟨w0.heap.size, i, none⟩ = false := fun i => hO3.free i
  simp at q0
  have Hfin := hide (And.intro hfin hwork)
  clear hown3 hg3 hat3 hlo hO3 hO4 hfin hgr hlo3 hwork hkO hkN H0 H2 o0
  go_wp2
  go_returns
  exact ⟨rfl, _, Hfin.out.1, fun b hb => hb.imp id fun h => h.1, Hfin.out.2⟩

end Go.Proofs.YtajeghkjppkhcaaGreat
