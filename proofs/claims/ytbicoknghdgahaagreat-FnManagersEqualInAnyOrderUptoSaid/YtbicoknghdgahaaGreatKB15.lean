/- Parts: FromSet, AppKeep, Iter. -/
import Derived.Test.YtbicoknghdgahaaGreatKB14
set_option linter.unusedVariables false
set_option linter.unusedSimpArgs false
namespace Go.Proofs.YtbicoknghdgahaaGreat
open Go.RowKit
attribute [local go_sem] run_store_float

def FPInv (w : World) (p : List E) (s3 s9 : Value) (W : World) : Prop :=
 ∃ (k : Nat) (us : List Value), s9 = .int .i64 (k : Int) ∧ k ≤ p.length ∧ W.ownsRow w.heap.size 29 11 s3 k us ∧ Cells 11 (ElemAt (FrX w.heap.size W s3) W) ((p.take k).map E.toREl) us ∧ Below w.heap.size w W

set_option maxRecDepth 100000 in
set_option maxHeartbeats 4000000 in
theorem fromPath_calls {p : List E} {A : Option Addr} {c : Nat} {w : World} (h : PPathAt (Old w) w p A c) (hn : p.length * 168 ≤ R47) : Calls Tryz.prog 129 #[.slice A p.length c] w (GivesEls (p.map E.toREl) w) := by
 obtain ⟨h1, h2, h3, xs, h4, h5⟩ := h
 have h1' : p.length * 168 ≤ 140737488351232 := hn
 obtain ⟨i9, hi9, hz9, hs9, hb9⟩ := info_parts elem_info
 have H7 := hide (And.intro h4 h5)
 clear h1 h4 h5 hn
 go_enter Tryz.func129, Tryz.ntmps129
 go_wp2_with fail
 have hb0 : Below w.heap.size w (w.alloc (.cells #[] 29)) := (Below.refl _ _).alloc (Nat.le_refl _) _
 have hown0 := World.ownsRow_lit (base := w.heap.size) (e := 29) (size := 11) w #[] 0 (by simp) (by simp [maxLen]) (by simp)
 have H0 := hide (And.intro hb0 hown0)
 clear hb0 hown0
 go_loopw [3, 9] (fun s3 s9 W => FPInv w p s3 s9 W) (fun _ s _ => p.length - (intOf s).toNat)
 case atStart => exact ⟨0, [], rfl, Nat.zero_le _, H0.out.2, Cells.nil_, H0.out.1⟩
 case round =>
  obtain ⟨k, us, rfl, hk, hown, hus, hb⟩ := hrel
  by_cases hlt : k < p.length
  ·have hki0 : (0 : Int) ≤ (k : Int) := Int.natCast_nonneg _
   have hki1 : (k : Int) < (p.length : Int) := by omega
   have hx := H7.out.2.at_ hlt
   have hsn : (p.take (k + 1)).map E.toREl = (p.take k).map E.toREl ++ [(p[k]).toREl] := by rw [List.take_succ_eq_append_getElem hlt, List.map_append]; rfl
   generalize p[k] = fx at *
   generalize hcs : (xs.drop (k * 4)).take 4 = fcs at hx
   obtain ⟨a0, a1, a2, a3, rfl⟩ := hx.form
   obtain ⟨rb, ro, rfl, hF, hc⟩ := rown_at H7.out.1 hlt hcs
   have ec := (bcell hb).1
   have m0 := (ec _ _ hF).trans (hc 0 _ rfl)
   have m1 := (ec _ _ hF).trans (hc 1 _ rfl)
   have m2 := (ec _ _ hF).trans (hc 2 _ rfl)
   have m3 := (ec _ _ hF).trans (hc 3 _ rfl)
   rw [Nat.add_zero] at m0
   have hrb : rb < w.heap.size := hF
   have HE := hide fun (W : World) (hb : Below w.heap.size w W) => fromElem_calls (hx.at_ hb)
   have Hq := hide (And.intro hown (And.intro hus (And.intro hb hsn)))
   clear hown hus hb hsn hx hcs hc ec hF
   go_wp2_with fail
   have hbA : Below wr.heap.size wr (wr.alloc (.cells #[.pointer a0, .pointer a1, .pointer a2, .pointer a3] 109)) := (Below.refl _ _).alloc (Nat.le_refl _) _
   have hbw := Hq.out.2.2.1.trans (hbA.mono Hq.out.2.2.1.size)
   refine (HE.out _ hbw).mono ?_
   rintro e w1 ⟨ps, rfl, hp, hb1⟩
   obtain ⟨e0, e1, e2, e3, e4, e5, e6, e7, e8, e9, ea, eb, ec', ed, ee, ef, eg, eh, ei, rfl⟩ := hp.form
   have hp' : ElemAt (Fr wr.heap.size w1) w1 fx.toREl [.int .i64 e0, .string e1, .slice e2 e3 e4, .slice e5 e6 e7, .int .i64 e8, .int .i64 e9, .float .f64 ea, .string eb, .slice ec' ed ee, .slice ef eg eh, .int .i64 ei] := hp.mono fun b hb => ⟨by have := hb.1; rw [World.size_alloc] at this; omega, hb.2⟩
   have hb1' : Below wr.heap.size wr w1 := hbA.trans (hb1.mono hbA.size)
   have H1 := hide (And.intro hp' hb1')
   have hs0 : w.heap.size ≤ w1.heap.size := (Hq.out.2.2.1.trans (hb1'.mono Hq.out.2.2.1.size)).size
   clear hp hp' hb1 hb1' hbA hbw m0 m1 m2 m3 HE
   obtain ⟨oA, oc, rfl, _, _⟩ := own_form Hq.out.1
   go_wp2_with (at_builtin; go_loud (refine wpList_append_row _ rfl (.tmp 13) (.tmp 16) 22 rfl w.heap.size 29 i9 _ 11 168 Tryz.underlying22 hi9 hz9 hs9 hb9 rfl (by omega) _ k us rfl ((ownsRow_below Hq.out.1 H1.out.2 (Nat.le_refl _)).alloc _) (fun _ => True) (some ⟨w1.heap.size, 0, none⟩) 1 1 [.int .i64 e0, .string e1, .slice e2 e3 e4, .slice e5 e6 e7, .int .i64 e8, .int .i64 e9, .float .f64 ea, .string eb, .slice ec' ed ee, .slice ef eg eh, .int .i64 ei] rfl (Row.of_bkp (Bk.new w1 29 ([.int .i64 e0, .string e1, .slice e2 e3 e4, .slice e5 e6 e7, .int .i64 e8, .int .i64 e9, .float .f64 ea, .string eb, .slice ec' ed ee, .slice ef eg eh, .int .i64 ei] : List Value).toArray) rfl trivial) (by simp [Value.oneCell']) (by omega) (by omega) (by rw [World.size_alloc]; omega) ?_))
   intro out' w2 hown2 hg2 hat2
   have hcs := cells_stepp (Q := fun F w a cs => ElemAt F w a cs) (a := fx.toREl) (fun h k => h.keeps k) (fun h k => h.mono k) Hq.out.1 Hq.out.2.1 Hq.out.2.2.1.size H1.out.1 rfl H1.out.2 hg2 (by rw [World.size_alloc]; exact hat2)
   have hlo := Hq.out.1.lt
   have hbf : Below w.heap.size w w2 := ((Hq.out.2.2.1.trans (H1.out.2.mono Hq.out.2.2.1.size)).alloc hs0 _).grown hg2 (by rw [World.size_alloc]; omega) fun k e => (hlo k e).1
   have Hfin := hide (And.intro hown2 (And.intro hcs (And.intro hbf Hq.out.2.2.2)))
   obtain ⟨nA, nc, rfl, _, _⟩ := own_form hown2
   clear hown2 hg2 hat2 hcs hlo hbf H1 Hq hs0
   go_wp2_with fail
   exact ⟨⟨k + 1, _, by go_num, by omega, Hfin.out.1, by rw [Hfin.out.2.2.2]; exact Hfin.out.2.1.1, Hfin.out.2.2.1⟩, by simp [intOf]; omega⟩
  ·have hke : k = p.length := by omega
   subst hke
   have hki1 : ¬ ((p.length : Nat) : Int) < (p.length : Int) := by omega
   rw [List.take_of_length_le (Nat.le_refl _)] at hus
   obtain ⟨oA, oc, rfl, hc1, hc2⟩ := own_form hown
   have hlt := hown.lt
   have hfin : PathAt (Fr w.heap.size wr) wr (p.map E.toREl) oA oc := ⟨by rw [List.length_map]; unfold R47; omega, by rw [List.length_map]; exact hc1, hc2, us, by rw [List.length_map]; exact Row.of_own hown hlt, hus.mono fun a cs h => h.mono fun b hb => ⟨hb.1, hb.2.1⟩⟩
   have H3 := hide (And.intro hb hfin)
   have Hlm := hide (show (p.map E.toREl).length = p.length from List.length_map _)
   clear hb hown hus hlt hc1 hc2 hfin
   go_wp2
   go_ret
   exact ⟨oA, oc, by rw [Hlm.out]; rfl, H3.out.2, H3.out.1⟩

structure Work (K : Nat → Prop) (W W' : World) : Prop where
 os : W'.os = W.os
 tape : W'.tape = W.tape
 output : W'.output = W.output
 size : W.heap.size ≤ W'.heap.size
 frame : ∀ b, b < W.heap.size → ¬ K b → W'.heap[b]? = W.heap[b]?
theorem Work.refl (K : Nat → Prop) (W : World) : Work K W W := ⟨rfl, rfl, rfl, Nat.le_refl _, fun _ _ _ => rfl⟩
theorem Work.trans {K K' : Nat → Prop} {a b c : World} (h : Work K a b) (h' : Work K' b c) (hk : ∀ x, K' x → K x ∨ a.heap.size ≤ x) : Work K a c :=
 ⟨h'.os.trans h.os, h'.tape.trans h.tape, h'.output.trans h.output, Nat.le_trans h.size h'.size, fun x hx hn => (h'.frame x (Nat.lt_of_lt_of_le hx h.size) fun e => (hk x e).elim hn (by omega)).trans (h.frame x hx hn)⟩
theorem Work.mono {K K' : Nat → Prop} {a b : World} (h : Work K a b) (hk : ∀ x, K x → K' x) : Work K' a b := ⟨h.os, h.tape, h.output, h.size, fun x hx hn => h.frame x hx fun e => hn (hk x e)⟩
theorem Work.of_below {K : Nat → Prop} {a b : World} (h : Below a.heap.size a b) : Work K a b := ⟨h.os, h.tape, h.output, h.size, fun x hx _ => h.block x hx⟩
theorem Work.keeps {K F : Nat → Prop} {a b : World} (h : Work K a b) (hF : ∀ x, F x → x < a.heap.size ∧ ¬ K x) : Keeps F a b := fun x hx => h.frame x (hF x hx).1 (hF x hx).2
theorem Work.below {K : Nat → Prop} {B : Nat} {a b : World} (h : Work K a b) (hB : B ≤ a.heap.size) (hK : ∀ x, K x → B ≤ x) : Below B a b := ⟨h.os, h.tape, h.output, h.size, fun x hx => h.frame x (by omega) fun e => by have := hK x e; omega⟩

def OutP (w0 : World) (vis : List (List E)) (K : Nat → Prop) (W : World) : Prop :=
 ∃ (s : Value) (xs : List Value), Bk W w0.heap.size 36 #[s] ∧ W.ownsRow (w0.heap.size + 1) 22 1 s vis.length xs ∧ Cells 1 (PQ (fun b => w0.heap.size + 1 ≤ b ∧ b < W.heap.size ∧ some b ≠ s.ownBlock ∧ K b) W) (vis.map (List.map E.toREl)) xs ∧ Below w0.heap.size w0 W ∧
  K w0.heap.size ∧ (∀ b, s.ownBlock = some b → K b) ∧ ∀ b, K b → w0.heap.size ≤ b ∧ b < W.heap.size
theorem OutP.keep {w0 W W' : World} {vis : List (List E)} {K : Nat → Prop} (h : OutP w0 vis K W) (hw : Work (fun b => ¬ K b ∧ w0.heap.size ≤ b) W W') : OutP w0 vis K W' := by
 obtain ⟨s, xs, h1, h2, h3, h4, h5, h6, h7⟩ := h
 have k : ∀ b, K b → W'.heap[b]? = W.heap[b]? := fun b hb => hw.frame b (h7 b hb).2 fun e => e.1 hb
 refine ⟨s, xs, (k _ h5).trans h1, ownsRow_keptB h2 fun b hb => k b (h6 b hb), h3.mono fun _ _ h => PQ.mono (PQ.keeps h fun b hb => k b hb.2.2.2) fun b hb => ⟨hb.1, Nat.lt_of_lt_of_le hb.2.1 hw.size, hb.2.2⟩, ?_, h5, h6, fun b hb => ⟨(h7 b hb).1, Nat.lt_of_lt_of_le (h7 b hb).2 hw.size⟩⟩
 exact h4.trans (hw.below h4.size fun b hb => hb.2)

set_option maxRecDepth 100000 in
set_option maxHeartbeats 4000000 in
theorem fromSetC_calls {w0 V : World} {vis : List (List E)} {K G : Nat → Prop} {p : List E} {A : Option Addr} {c : Nat} (h : OutP w0 vis K V) (hp : PPathAt G V p A c) (hG : ∀ b, G b → b < V.heap.size) (hn : (vis.length + 1) * 24 ≤ R47) (hpl : p.length * 168 ≤ R47) :
  Calls Tryz.prog 128 #[.slice A p.length c, .pointer (some ⟨w0.heap.size, 0, none⟩)] V fun en W' => en = .returned (.tuple #[]) ∧ ∃ K', OutP w0 (vis ++ [p]) K' W' ∧ (∀ b, K' b → K b ∨ V.heap.size ≤ b) ∧ Work K V W' := by
 have hn' : (vis.length + 1) * 24 ≤ 140737488351232 := hn
 obtain ⟨i9, hi9, hz9, hs9, hb9⟩ := info_parts paths_info
 obtain ⟨s, xs, hbk, hown, hxs, hb, hK0, hKs, hKb⟩ := h
 obtain ⟨B, d, rfl, _, _⟩ := own_form hown
 have HE := hide (fromPath_calls (w := V.drew) ((hp.keeps (w' := V.drew) fun _ _ => rfl).mono (G := Old V.drew) fun b hb => hG b hb) hpl)
 have hol := hbk.lt
 have o0 := hbk.cell 0
 simp at o0
 have H0 := hide (And.intro hbk (And.intro hown (And.intro hxs (And.intro hb (And.intro hK0 (And.intro hKs hKb))))))
 clear hbk hown hxs hb hp hK0 hKs hKb hG
 obtain ⟨pn, hpn⟩ : ∃ pn, (p.map E.toREl).length = pn := ⟨_, rfl⟩
 have Hpn := hide hpn
 clear hpn hpl
 go_enter Tryz.func128, Tryz.ntmps128
 go_wp2_with fail
 obtain ⟨S, hS⟩ : ∃ S : World → Prop, (fun W => W.cell? ⟨w0.heap.size, 0, none⟩ = some (.slice B vis.length d)) = S := ⟨_, rfl⟩
 have hS0 : S V.drew := by rw [← hS]; exact o0
 refine wp_region_head 4 S (by rfl) (by kernel_rfl) ?_
 have hX := hide (show ∀ W : World, S W → W.cell? ⟨w0.heap.size, 0, none⟩ = some (.slice B vis.length d) from fun W hSw => by rw [← hS] at hSw; exact hSw)
 iterate 2
  refine HT.nx (v := ?_) rfl (by kernel_rfl) (fun _ _ _ h => h) (Or.inl ⟨by rfl, ?_⟩) ‹_› ?_
  rotate_left
  ·intro W hSw; have hSw := hX.out W hSw; go_simp; with_reducible rfl
  simp only [Act.put, zzA, zzZ, zzS]
 clear hX
 refine HT.one 2 rfl (by kernel_rfl) (by rfl) (fun K hK => ?_)
 go_simp
 refine HE.out.mono ?_
 rintro en w2 ⟨A2, c2, rfl, hpp, hb2⟩
 rw [Hpn.out]
 have hb2' : Below V.heap.size V w2 := below_drew' hb2
 have hS2 : S w2 := by rw [← hS]; exact ((bcell hb2').1 _ _ hol).trans o0
 go_simp
 refine hK.out _ _ hS2 ?_
 clear hK K
 have hs2 := hb2'.size
 refine HT.one 3 rfl (by kernel_rfl) (by rfl) (fun K hK => ?_)
 go_simp
 refine hK.out _ _ (by
  rw [← hS] at hS2 ⊢
  exact ((bcell ((Below.refl w2.heap.size w2).alloc (Nat.le_refl _) (.cells #[.slice A2 pn c2] 22))).1 _ _ (by omega)).trans hS2) ?_
 clear hK K
 refine HT.done (by kernel_rfl) ?_
 simp only [List.drop_succ_cons, List.drop_zero]
 have hpp' : PQ (Fr V.heap.size w2) w2 (p.map E.toREl) [.slice A2 pn c2] := ⟨A2, c2, by rw [Hpn.out], hpp⟩
 have H2 := hide (And.intro hb2' hpp')
 clear hS0 hS2 hS hb2 hb2' hpp hpp' HE
 have hbase : w0.heap.size + 1 ≤ V.heap.size := hol
 go_wp2_with (at_builtin; go_loud (refine wpList_append_row _ rfl (.tmp 3) (.tmp 6) 36 rfl (w0.heap.size + 1) 22 i9 _ 1 24 Tryz.underlying36 hi9 hz9 hs9 hb9 rfl (by omega) _ vis.length xs rfl ((ownsRow_below H0.out.2.1 H2.out.1 (Nat.le_refl _)).alloc _) (fun _ => True) (some ⟨w2.heap.size, 0, none⟩) 1 1 [.slice A2 pn c2] rfl (Row.of_bkp (Bk.new w2 22 ([.slice A2 pn c2] : List Value).toArray) rfl trivial) (by simp [Value.oneCell']) (by omega) (by omega) (by rw [World.size_alloc]; omega) ?_))
 intro out' w3 hown3 hg3 hat3
 have hlo := H0.out.2.1.lt
 have hs3 : w2.heap.size + 1 ≤ w3.heap.size := by have := hg3.size; rw [World.size_alloc] at this; exact this
 have hO3 : Bk w3 w0.heap.size 36 #[.slice B vis.length d] := ((H0.out.1.below H2.out.1 hol).alloc _).grown hg3 (fun e => by have := (hlo _ e.symm).1; omega)
 obtain ⟨nA, nc, rfl, _, _⟩ := own_form hown3
 have hO4 := hO3.set_ 0 (.slice nA (vis.length + 1) nc)
 simp at hO4
 have hgr := grown2_mk (o := w0.heap.size) (i := 0) (u := .slice nA (vis.length + 1) nc) (H2.out.1.alloc hs2 _) hg3
 have hlo3 := hown3.lt
 have hwork : Work K V (w3.setCell ⟨w0.heap.size, 0, none⟩ (.slice nA (vis.length + 1) nc)) :=
  ⟨hgr.os, hgr.tape, hgr.output, hgr.size, fun b hb hn => hgr.block b hb (fun e => hn (e ▸ H0.out.2.2.2.2.1)) fun e => hn (H0.out.2.2.2.2.2.1 b e.symm)⟩
 have hkO : Keeps (fun b => w0.heap.size + 1 ≤ b ∧ b < V.heap.size ∧ some b ≠ (Value.slice B vis.length d).ownBlock ∧ K b) V (w3.setCell ⟨w0.heap.size, 0, none⟩ (.slice nA (vis.length + 1) nc)) := fun b hb => hgr.block b hb.2.1 (by have := hb.1; omega) hb.2.2.1
 have hkN : Keeps (Fr V.heap.size w2) w2 (w3.setCell ⟨w0.heap.size, 0, none⟩ (.slice nA (vis.length + 1) nc)) := by
  rintro b ⟨q1, q2⟩
  rw [Below.heap_setCell _ _ _ _ (by show b ≠ w0.heap.size; omega), hg3.block b (by rw [World.size_alloc]; omega) (fun e => by have := (hlo _ e.symm).2; omega), Below.heap_alloc _ _ _ q2]
 have hfin : OutP w0 (vis ++ [p]) (fun b => K b ∨ (V.heap.size ≤ b ∧ b < w3.heap.size)) (w3.setCell ⟨w0.heap.size, 0, none⟩ (.slice nA (vis.length + 1) nc)) := by
  refine ⟨_, _, hO4, by simpa using ownsRow_setCell_below hown3 (show w0.heap.size < w0.heap.size + 1 by omega) _, ?_, ?_, .inl H0.out.2.2.2.2.1, fun b hb => ?_, fun b hb => ?_⟩
  ·rw [List.map_append, List.map_cons, List.map_nil]
   refine Cells.append (H0.out.2.2.1.mono fun _ _ h => PQ.mono (PQ.keeps h hkO) fun b hb => ⟨hb.1, by rw [(setCell_same _ _ _).2.2.2]; omega, fun e => ?_, .inl hb.2.2.2⟩) (Cells.one (PQ.mono (PQ.keeps H2.out.2 hkN) fun b hb => ⟨by have := hb.1; omega, by rw [(setCell_same _ _ _).2.2.2]; have := hb.2; omega, fun e => ?_, .inr ⟨hb.1, by have := hb.2; omega⟩⟩) rfl)
   ·rcases hat3 with e' | e'
    ·exact hb.2.2.1 (by rw [← e']; exact e)
    ·rw [e'] at e; have e3 : b = w2.heap.size + 1 := Option.some.inj e; have := hb.2.1; omega
   ·rcases hat3 with e' | e'
    ·rw [e'] at e; have := (hlo b e.symm).2; have := hb.1; omega
    ·rw [e'] at e; have e3 : b = w2.heap.size + 1 := Option.some.inj e; have := hb.2; omega
  ·exact H0.out.2.2.2.1.trans (hwork.below H0.out.2.2.2.1.size fun b hb => (H0.out.2.2.2.2.2.2 b hb).1)
  ·rcases hat3 with e' | e'
   ·exact .inl (H0.out.2.2.2.2.2.1 b (by rw [← e']; exact hb))
   ·exact .inr ⟨by rw [e'] at hb; have e3 : w2.heap.size + 1 = b := Option.some.inj hb; omega, (hlo3 b hb).2⟩
  ·rw [(setCell_same _ _ _).2.2.2]
   rcases hb with hb | hb
   ·have := H0.out.2.2.2.2.2.2 b hb; exact ⟨this.1, by omega⟩
   ·exact ⟨by omega, hb.2⟩
 have q0 := hO3.cell 0
 have q1 : ∀ i, w3.frozen? ⟨w0.heap.size, i, none⟩ = false := fun i => hO3.free i
 simp at q0
 have Hfin := hide (And.intro hfin hwork)
 clear hown3 hg3 hat3 hlo hO3 hO4 hfin hgr hlo3 hwork hkO hkN H0 H2 o0
 go_wp2
 go_returns
 exact ⟨rfl, _, Hfin.out.1, fun b hb => hb.imp id fun h => h.1, Hfin.out.2⟩

end Go.Proofs.YtbicoknghdgahaaGreat

namespace Go.Proofs.YtbicoknghdgahaaGreat
open Go.RowKit

section
variable {P : Program}
theorem run_append_keep (w : World) (base : Nat) (t ty e : TypeId) (i : TypeInfo) (z : Value) (size bytes : Nat) (ht : P.underlying t = some (.slice e)) (hi : P.info? e = some i) (hz : i.zero = some z)
  (hsize : i.size = size) (hby : i.bytes = bytes) (hzs : z.cells.size = size) (hsz : 0 < size)
  (v : Value) (n : Nat) (xs : List Value) (hown : w.ownsRow base e size v n xs)
  (a : Addr) (m c : Nat) (news : List Value) (hm : 0 < m) (hl : news.length = m * size) (hnews : ∀ j u, news[j]? = some u → w.cell? (a.add j) = some u) (h1 : ∀ u ∈ news, u.oneCell' = true)
  (h63 : n + m ≤ maxLen) (hbytes : (n + m) * bytes ≤ 140737488355328) (hbase : base ≤ w.heap.size) :
  ∃ v' w', (Builtin.append_ #[t, t] ty #[v, .slice (some a) m c]).run P w = .ok v' w' ∧ w'.ownsRow base e size v' (n + m) (xs ++ news) ∧ w.grownBy w' v.ownBlock ∧ (v'.ownBlock = v.ownBlock ∨ v'.ownBlock = some w.heap.size) ∧ w'.ownsRow base e size v n xs := by
 obtain ⟨v', w', q1, q2, q3, -, q5⟩ := run_append_own_at (P := P) w base t ty e i z size bytes ht hi hz hsize hby hzs hsz v n xs hown a m c news hl hnews h1 h63 hbytes hbase
 refine ⟨v', w', q1, q2, q3, q5, ?_⟩
 subst hsize
 subst hby
 obtain ⟨hxl, ⟨rfl, rfl⟩ | ⟨g, cap, cur, rfl, hbg, hg, hnc, hcm, hcs, htake⟩⟩ := hown
 ·rw [Nat.zero_mul] at hxl
  rw [List.eq_nil_of_length_eq_zero hxl]
  exact World.ownsRow_nil _ _ _ _
 ·by_cases hroom : n + m ≤ cap
  ·have hfit : n * i.size + news.length ≤ cur.size := by rw [hl, hcs, ← Nat.add_mul]; exact Nat.mul_le_mul_right _ hroom
   have hr := run_append_room (P := P) w t ty e i ht hi g n cap cur hg a m c news hl hnews h1 hroom hfit
   rw [q1] at hr
   cases hr
   refine ⟨hxl, .inr ⟨g, cap, _, rfl, hbg, setRow_heap w g cur _ e _ hg, hnc, hcm, ?_, ?_⟩⟩
   ·simp only [List.size_toArray, List.length_append, List.length_take, List.length_drop, Array.length_toList]
    omega
   ·rw [List.append_assoc, List.take_append_of_le_length (by rw [List.length_take, Array.length_toList]; omega), List.take_take, Nat.min_self]
    exact htake
  ·have holds : ∀ j u, xs[j]? = some u → w.cell? ((⟨g, 0, none⟩ : Addr).add j) = some u := World.ownsRow.cells (base := base) (e := e) (size := i.size) (n := n) (v := .slice (some ⟨g, 0, none⟩) n cap) ⟨hxl, .inr ⟨g, cap, cur, rfl, hbg, hg, hnc, hcm, hcs, htake⟩⟩ (g := g) rfl
   have hr := run_append_grow (P := P) w t ty e i z ht hi hz ⟨g, 0, none⟩ n cap xs hxl holds a m c news hl hnews (by omega) (by unfold maxLen at h63; omega) (growslice_fits (by omega) hbytes)
   rw [q1] at hr
   cases hr
   exact ⟨hxl, .inr ⟨g, cap, cur, rfl, hbg, (Below.heap_alloc w.drew _ g (show g < w.drew.heap.size from (Array.getElem?_eq_some_iff.1 hg).1)).trans hg, hnc, hcm, hcs, htake⟩⟩

theorem wp_append_keep {w : World} {o : Oper} {a : Act} {K : Act → World → Prop} {Q : Exit → Act → World → Prop} (s x : Operand) (t : TypeId)
  (ho : o.op = .call { callee := .builtin .append, args := #[s, x], argTypes := #[t, t] })
  (base : Nat) (e : TypeId) (i : TypeInfo) (z : Value) (size bytes : Nat) (ht : P.underlying t = some (.slice e)) (hi : P.info? e = some i) (hz : i.zero = some z)
  (hsize : i.size = size) (hby : i.bytes = bytes) (hzs : z.cells.size = size) (hsz : 0 < size)
  (v : Value) (n : Nat) (xs : List Value) (hs : a.eval s = v) (hown : w.ownsRow base e size v n xs)
  (ad : Addr) (m c : Nat) (news : List Value) (hm : 0 < m) (hx : a.eval x = .slice (some ad) m c) (hl : news.length = m * size) (hnews : ∀ j u, news[j]? = some u → w.cell? (ad.add j) = some u) (h1 : ∀ u ∈ news, u.oneCell' = true)
  (h63 : n + m ≤ maxLen) (hbytes : (n + m) * bytes ≤ 140737488355328) (hbase : base ≤ w.heap.size)
  (h : ∀ v' w', w'.ownsRow base e size v' (n + m) (xs ++ news) → w.grownBy w' v.ownBlock → (v'.ownBlock = v.ownBlock ∨ v'.ownBlock = some w.heap.size) → w'.ownsRow base e size v n xs → K (a.put o.dst v') w') : o.wp P a w K Q := by
 obtain ⟨v', w', hrun, h2, h3, h4, h5⟩ := run_append_keep (P := P) w base t o.type e i z size bytes ht hi hz hsize hby hzs hsz v n xs hown ad m c news hm hl hnews h1 h63 hbytes hbase
 unfold Oper.wp execOp
 simp only [ho, resolve, invoke, builtin, Sem.run_bind, Sem.run_pure, Result.andThen_ok, List.map_toArray, List.map_cons, List.map_nil, hs, hx, hrun]
 exact h v' w' h2 h3 h4 h5
end

end Go.Proofs.YtbicoknghdgahaaGreat

namespace Go.Proofs.YtbicoknghdgahaaGreat
open Go.RowKit
attribute [local go_sem] run_store_float

theorem St.Ht.empty_ (n : Nat) : St.Ht (n + 1) St.empty := .mk (by simp)
theorem ins_ht : ∀ {p : List E} {n : Nat} {s : St}, s.Ht n → p.length ≤ n → (St.ins p s).Ht n
 | [], n, s, h, _ => h
 | [e], n, s, h, _ => by
  cases h with
  | mk h => exact .mk h
 | e :: x :: p, n, s, h, hl => by
  cases h with
  | @mk n m ks h =>
   simp only [List.length_cons] at hl
   refine .mk fun k hk => ?_
   rcases mem_insK hk with rfl | ⟨k', h6, rfl⟩ | hk
   ·obtain ⟨n', rfl⟩ : ∃ n', n = n' + 1 := ⟨n - 1, by omega⟩
    exact ins_ht (St.Ht.empty_ n') (by simp only [List.length_cons]; omega)
   ·exact ins_ht (h k' h6) (by simp only [List.length_cons]; omega)
   ·exact h k hk
theorem setP_ht {l : List (List E)} {n : Nat} (h : ∀ p ∈ l, p.length ≤ n + 1) : (setP l).Ht (n + 1) := by
 have : ∀ (l : List (List E)) (s : St), (∀ p ∈ l, p.length ≤ n + 1) → s.Ht (n + 1) → (l.foldl (fun s p => St.ins p s) s).Ht (n + 1) := by
  intro l
  induction l with
  | nil => exact fun s _ h => h
  | cons p l ih => exact fun s h hs => ih _ (fun q hq => h q (List.mem_cons_of_mem _ hq)) (ins_ht hs (h p (by simp)))
 exact this l _ h (St.Ht.empty_ n)
theorem own_shorter {w3 w4 : World} {B : Nat} {e : TypeId} {k n : Nat} {v v' : Value} {us cs : List Value} (h3 : w3.ownsRow B e k v n us) (h3' : w3.ownsRow B e k v' (n + 1) (us ++ cs)) (h4 : w4.ownsRow B e k v' (n + 1) (us ++ cs)) (hb : ∀ b, v.ownBlock = some b → v'.ownBlock ≠ some b → w4.heap[b]? = w3.heap[b]?) : w4.ownsRow B e k v n us := by
 obtain ⟨hl, ⟨rfl, rfl⟩ | ⟨g, c, cur, rfl, q1, q2, q3, q4, q5, q6⟩⟩ := h3
 ·rw [Nat.zero_mul] at hl
  rw [List.eq_nil_of_length_eq_zero hl]
  exact World.ownsRow_nil _ _ _ _
 ·by_cases hv : v'.ownBlock = some g
  ·obtain ⟨hl', ⟨-, h0⟩ | ⟨g', c', cur', rfl, r1, r2, r3, r4, r5, r6⟩⟩ := h3'
   ·omega
   ·obtain ⟨-, ⟨-, h0⟩ | ⟨g2, c2, cur2, e2, s1, s2, s3, s4, s5, s6⟩⟩ := h4
    ·omega
    ·cases e2
     cases hv
     rw [q2] at r2
     cases r2
     refine ⟨hl, .inr ⟨_, c, cur2, rfl, q1, s2, q3, q4, by rw [s5, ← r5, q5], ?_⟩⟩
     have : (cur2.toList.take ((n + 1) * k)).take (n * k) = (us ++ cs).take (n * k) := by rw [s6]
     rw [List.take_take, List.take_left' hl, Nat.min_eq_left (by rw [Nat.add_mul]; omega)] at this
     exact this
  ·exact ⟨hl, .inr ⟨g, c, cur, rfl, q1, (hb g rfl hv).trans q2, q3, q4, q5, q6⟩⟩

structure Clos (fid : FuncId) (cap : Array Value) (J : List (List E) → (Nat → Prop) → World → Prop) (B N M : Nat) : Prop where
 enter : ∀ (args : Array Value) (W : World), (callFunc fid args).run Tryz.prog W = .ok (.enter fid args) W
 keep : ∀ {vis : List (List E)} {K : Nat → Prop} {W W' : World}, J vis K W → Work (fun b => ¬ K b ∧ B ≤ b) W W' → J vis K W'
 lt : ∀ {vis : List (List E)} {K : Nat → Prop} {W : World}, J vis K W → ∀ b, K b → b < W.heap.size
 base : ∀ {vis : List (List E)} {K : Nat → Prop} {W : World}, J vis K W → B ≤ W.heap.size
 step : ∀ {vis : List (List E)} {K G : Nat → Prop} {W : World} {p : List E} {A : Option Addr} {c : Nat}, J vis K W → PPathAt G W p A c → (∀ b, G b → b < W.heap.size) → vis.length < M → p.length ≤ N →
  Calls Tryz.prog fid (#[.slice A p.length c] ++ cap) W fun en W' => en = .returned (.tuple #[]) ∧ ∃ K', J (vis ++ [p]) K' W' ∧ (∀ b, K' b → K b ∨ W.heap.size ≤ b) ∧ Work K W W'

def IterPost (J : List (List E) → (Nat → Prop) → World → Prop) (B : Nat) (w : World) (vis : List (List E)) (K : Nat → Prop) (pv : Value) (n : Nat) (us : List Value) (add : List (List E)) (en : Ending) (w' : World) : Prop :=
 en = .returned (.tuple #[]) ∧ ∃ K', J (vis ++ add) K' w' ∧ (∀ b, K' b → K b ∨ w.heap.size ≤ b) ∧ Work (fun b => K b ∨ pv.ownBlock = some b) w w' ∧ w'.ownsRow B 109 4 pv n us

def ItJ (J : List (List E) → (Nat → Prop) → World → Prop) (B : Nat) (w : World) (vis : List (List E)) (K : Nat → Prop) (pv : Value) (pre : List E) (us : List Value) (fv : Value) (es : List E) (W : World) : Prop :=
 ∃ K', J (vis ++ es.map (fun e => pre ++ [e])) K' W ∧ (∀ b, K' b → K b ∨ w.heap.size + 2 ≤ b) ∧ Work (fun b => K b ∨ pv.ownBlock = some b) w W ∧ w.heap.size + 2 ≤ W.heap.size ∧ W.ownsRow B 109 4 pv pre.length us ∧
  Bk W w.heap.size 133 #[pv] ∧ Bk W (w.heap.size + 1) 132 #[fv]

def ItS (a b h : Nat) (u v c0 c1 c2 c3 : Value) (W : World) : Prop := W.cell? ⟨a, 0, none⟩ = some u ∧ W.cell? ⟨b, 0, none⟩ = some v ∧ W.cell? ⟨h, 0, none⟩ = some c0 ∧ W.cell? ⟨h, 1, none⟩ = some c1 ∧ W.cell? ⟨h, 2, none⟩ = some c2 ∧ W.cell? ⟨h, 3, none⟩ = some c3

set_option maxRecDepth 100000 in
set_option maxHeartbeats 4000000 in
theorem iterC_calls {fid : FuncId} {cap : Array Value} {J : List (List E) → (Nat → Prop) → World → Prop} {B N M : Nat} (C : Clos fid cap J B N M) {w V : World} {vis : List (List E)} {K G : Nat → Prop} {pv : Value} {pre : List E} {us : List Value} {es : List E} {e : E} {cs : List Value}
  (h : ItJ J B w vis K pv pre us (.func (.func fid) #[] cap) es V) (hG : ∀ b, G b → b < w.heap.size ∧ ¬ K b ∧ pv.ownBlock ≠ some b) (hK : ∀ b, K b → b < w.heap.size) (hpb : ∀ b, pv.ownBlock = some b → b < w.heap.size ∧ ¬ K b) (hus : Cells 4 (PEAt G w) pre us) (he : PEAt G w e cs) (hn : pre.length + 1 ≤ N) (hN : N * 168 ≤ R47) (hM : vis.length + es.length < M) :
  Calls Tryz.prog 214 (#[.agg cs.toArray] ++ #[.pointer (some ⟨w.heap.size + 1, 0, none⟩), .pointer (some ⟨w.heap.size, 0, none⟩)]) V fun en W' => en = .returned (.tuple #[]) ∧ ItJ J B w vis K pv pre us (.func (.func fid) #[] cap) (es ++ [e]) W' := by
 have hn' : (pre.length + 1) * 168 ≤ 140737488351232 := Nat.le_trans (Nat.mul_le_mul_right _ hn) hN
 obtain ⟨i9, hi9, hz9, hs9, hb9⟩ := info_parts pe_info
 obtain ⟨K1, hJ, hK1, hw, hsz, hown, hbp, hbf⟩ := h
 obtain ⟨c0, c1, c2, c3, rfl⟩ := he.form
 obtain ⟨PA, pc, rfl, _, _⟩ := own_form hown
 have hkV : Keeps G w V := hw.keeps fun b hb => ⟨(hG b hb).1, fun h => h.elim (hG b hb).2.1 (hG b hb).2.2⟩
 have heV := he.keeps hkV
 have husV := hus.mono fun _ _ h => h.keeps hkV
 have p0 := hbp.cell 0
 have f0 := hbf.cell 0
 simp at p0 f0
 have hpl := hbp.lt
 have hfl := hbf.lt
 have hbV := C.base hJ
 have H0 := hide (And.intro hJ (And.intro hK1 (And.intro hw (And.intro hown (And.intro hbp (And.intro hbf (And.intro heV husV)))))))
 have HG := hide (And.intro hG (And.intro hK hpb))
 clear hJ hK1 hw hown hbp hbf heV husV hkV hus he hG hK hpb hN
 go_enter Tryz.func214, Tryz.ntmps214
 go_wp2_with fail
 have hbA : Below V.heap.size V (V.alloc (.cells #[.pointer c0, .pointer c1, .pointer c2, .pointer c3] 109)) := (Below.refl _ _).alloc (Nat.le_refl _) _
 have hX := Bk.new V 109 #[.pointer c0, .pointer c1, .pointer c2, .pointer c3]
 generalize hw1 : World.alloc V _ = w1 at hbA hX ⊢
 have hsz1 : w1.heap.size = V.heap.size + 1 := by rw [← hw1, World.size_alloc]
 have ec := (bcell hbA).1
 have p1 := (ec _ _ hpl).trans p0
 have f1 := (ec _ _ hfl).trans f0
 have x0 := hX.cell 0
 have x1 := hX.cell 1
 have x2 := hX.cell 2
 have x3 := hX.cell 3
 simp at x0 x1 x2 x3
 obtain ⟨S, hS⟩ : ∃ S, ItS (w.heap.size + 1) w.heap.size V.heap.size (.func (.func fid) #[] cap) (.slice PA pre.length pc) (.pointer c0) (.pointer c1) (.pointer c2) (.pointer c3) = S := ⟨_, rfl⟩
 have hS0 : S w1.drew := by rw [← hS]; exact ⟨f1, p1, x0, x1, x2, x3⟩
 have hS1 : S (w1.alloc (.cells #[.pointer c0, .pointer c1, .pointer c2, .pointer c3] 109)).drew := by
  have ed := (bcell (below_drew ((Below.refl w1.heap.size w1).alloc (Nat.le_refl _) (.cells #[.pointer c0, .pointer c1, .pointer c2, .pointer c3] 109)))).1
  rw [← hS]
  exact ⟨(ed _ _ (by omega)).trans f1, (ed _ _ (by omega)).trans p1, (ed _ _ (by omega)).trans x0, (ed _ _ (by omega)).trans x1, (ed _ _ (by omega)).trans x2, (ed _ _ (by omega)).trans x3⟩
 have H1 := hide (And.intro hbA hS1)
 clear hw1 hbA hX ec p0 f0 p1 f1 x0 x1 x2 x3 hS1
 refine wp_region_head 5 S (by rfl) (by kernel_rfl) ?_
 have hX := hide (show ∀ W : World, S W → ItS (w.heap.size + 1) w.heap.size V.heap.size (.func (.func fid) #[] cap) (.slice PA pre.length pc) (.pointer c0) (.pointer c1) (.pointer c2) (.pointer c3) W from fun W hSw => by rw [← hS] at hSw; exact hSw)
 iterate 3
  refine HT.nx (v := ?_) rfl (by kernel_rfl) (fun _ _ _ h => h) (Or.inl ⟨by rfl, ?_⟩) ‹_› ?_
  rotate_left
  ·intro W hSw; obtain ⟨s0, s1, s2, s3, s4, s5⟩ := hX.out W hSw; go_simp; with_reducible rfl
  simp only [Act.put, zzA, zzZ, zzS]
 clear hX
 refine HT.one 3 rfl (by kernel_rfl) (by rfl) (fun K hK => ?_)
 go_simp
 refine hK.out _ _ H1.out.2 ?_
 clear hK K
 refine HT.one 4 rfl (by kernel_rfl) (by rfl) (fun K hK => ?_)
 have hb3 : Below V.heap.size V (w1.alloc (.cells #[.pointer c0, .pointer c1, .pointer c2, .pointer c3] 109)).drew := below_drew (H1.out.1.alloc (by omega) _)
 refine wp_append_keep (.tmp 5) (.tmp 7) 133 rfl B 109 i9 _ 4 32 Tryz.underlying133 hi9 hz9 hs9 hb9 rfl (by omega) _ pre.length us rfl (ownsRow_below H0.out.2.2.2.1 hb3 (Nat.le_refl _)) ⟨V.heap.size + 1, 0, none⟩ 1 1 [.pointer c0, .pointer c1, .pointer c2, .pointer c3] (by omega) rfl rfl (fun j u h => cells_at w1 [.pointer c0, .pointer c1, .pointer c2, .pointer c3] 109 (V.heap.size + 1) hsz1 j u h) (by simp [Value.oneCell']) (by unfold maxLen; omega) (by omega) (by show B ≤ (w1.alloc _).heap.size; rw [World.size_alloc]; omega) ?_
 intro v' w3 hown3 hg3 hat3 hkeep3
 obtain ⟨nA, nc, rfl, hnc1, hnc2⟩ := own_form hown3
 have hs3 : w1.heap.size + 1 ≤ w3.heap.size := by have : (w1.alloc _).heap.size ≤ w3.heap.size := hg3.size; rw [World.size_alloc] at this; exact this
 have hpbo : ∀ b, (Value.slice PA pre.length pc).ownBlock = some b → B ≤ b := fun b hb => (H0.out.2.2.2.1.lt b hb).1
 have hV3 : Work (fun b => (Value.slice PA pre.length pc).ownBlock = some b) V w3 :=
  ⟨hg3.os.trans hb3.os, hg3.tape.trans hb3.tape, hg3.output.trans hb3.output, by omega, fun b hb hn => by rw [hg3.block b (by show b < (w1.alloc _).heap.size; rw [World.size_alloc]; omega) (fun e => hn e.symm)]; exact hb3.block b hb⟩
 have hS3 : S w3 := by
  have hs := H1.out.2
  rw [← hS] at hs ⊢
  obtain ⟨s0, s1, s2, s3, s4, s5⟩ := hs
  have eg := (gcell hg3).1
  have hne : ∀ x, w.heap.size ≤ x → some x ≠ (Value.slice PA pre.length pc).ownBlock := fun x hx e => by have := (HG.out.2.2 x e.symm).1; omega
  have hsz3 : (w1.alloc (.cells #[.pointer c0, .pointer c1, .pointer c2, .pointer c3] 109)).drew.heap.size = w1.heap.size + 1 := by show (w1.alloc _).heap.size = _; rw [World.size_alloc]
  exact ⟨(eg _ _ (by omega) (hne _ (by omega))).trans s0, (eg _ _ (by omega) (hne _ (by omega))).trans s1, (eg _ _ (by omega) (hne _ (by omega))).trans s2, (eg _ _ (by omega) (hne _ (by omega))).trans s3, (eg _ _ (by omega) (hne _ (by omega))).trans s4, (eg _ _ (by omega) (hne _ (by omega))).trans s5⟩
 go_simp
 refine hK.out _ _ hS3 ?_
 clear hK K
 refine HT.done (by kernel_rfl) ?_
 simp only [List.drop_succ_cons, List.drop_zero]
 have hJ3 : J (vis ++ es.map (fun e => pre ++ [e])) K1 w3 := C.keep H0.out.1 ⟨hV3.os, hV3.tape, hV3.output, hV3.size, fun b hb hn => hV3.frame b hb fun e => hn ⟨fun hk => by
  have h1 := HG.out.2.2 b e
  rcases H0.out.2.1 b hk with h2 | h2
  ·exact h1.2 h2
  ·omega, hpbo b e⟩⟩
 have hkG : Keeps G V w3 := hV3.keeps fun b hb => ⟨by have := (HG.out.1 b hb).1; omega, (HG.out.1 b hb).2.2⟩
 have hp3 : PPathAt (fun b => G b ∨ (Value.slice nA (pre.length + 1) nc).ownBlock = some b) w3 (pre ++ [e]) nA nc := by
  have hl : (pre ++ [e]).length = pre.length + 1 := by simp
  refine ⟨by rw [hl]; unfold R47; omega, by rw [hl]; exact hnc1, hnc2, us ++ [.pointer c0, .pointer c1, .pointer c2, .pointer c3], by rw [hl]; exact Row.of_own hown3 fun b hb => .inr hb, ?_⟩
  exact Cells.append (H0.out.2.2.2.2.2.2.2.mono fun _ _ h => (h.keeps hkG).mono fun b hb => .inl hb) (Cells.one ((H0.out.2.2.2.2.2.2.1.keeps hkG).mono fun b hb => .inl hb) rfl)
 have hHC := C.step hJ3 hp3 (fun b hb => by
  rcases hb with hb | hb
  ·have := (HG.out.1 b hb).1; omega
  ·exact (hown3.lt b hb).2) (by rw [List.length_append, List.length_map]; exact hM) (by simp; exact hn)
 rw [show (pre ++ [e]).length = pre.length + 1 by simp] at hHC
 have HC := hide hHC
 have H3 := hide (And.intro hV3 (And.intro hkeep3 hJ3))
 have hcf := C.enter
 clear hHC hown3 hg3 hat3 hkeep3 hV3 hJ3 hkG hp3 hS0 hS hS3 hb3 H1
 go_wp2_with fail
 refine HC.out.mono ?_
 rintro en w4 ⟨rfl, K4, hJ4, hK4, hw4⟩
 have hpK1 : ∀ b, (Value.slice PA pre.length pc).ownBlock = some b → ¬ K1 b := fun b e hk => by
  have h1 := HG.out.2.2 b e
  rcases H0.out.2.1 b hk with h2 | h2
  ·exact h1.2 h2
  ·omega
 have hboxK : ∀ x, w.heap.size ≤ x → x < w.heap.size + 2 → ¬ K1 x := fun x h1 h2 hk => by
  rcases H0.out.2.1 x hk with h3 | h3
  ·have := HG.out.2.1 x h3; omega
  ·omega
 have hboxp : ∀ x, w.heap.size ≤ x → ¬ (Value.slice PA pre.length pc).ownBlock = some x := fun x h1 e => by have := (HG.out.2.2 x e).1; omega
 have hk4 : ∀ x, w.heap.size ≤ x → x < w.heap.size + 2 → w4.heap[x]? = V.heap[x]? := fun x h1 h2 => (hw4.frame x (by have := H3.out.1.size; omega) (hboxK x h1 h2)).trans (H3.out.1.frame x (by omega) (hboxp x h1))
 have Hfin := hide (show ItJ J B w vis K (.slice PA pre.length pc) pre us (.func (.func fid) #[] cap) (es ++ [e]) w4 from by
  refine ⟨K4, ?_, fun b hb => ?_, ?_, ?_, ?_, (hk4 _ (Nat.le_refl _) (by omega)).trans H0.out.2.2.2.2.1, (hk4 _ (by omega) (by omega)).trans H0.out.2.2.2.2.2.1⟩
  ·rw [List.map_append, ← List.append_assoc]; exact hJ4
  ·rcases hK4 b hb with h1 | h1
   ·exact H0.out.2.1 b h1
   ·exact .inr (by omega)
  ·refine (H0.out.2.2.1.trans H3.out.1 fun x hx => .inl (.inr hx)).trans hw4 fun x hx => ?_
   rcases H0.out.2.1 x hx with h1 | h1
   ·exact .inl (.inl h1)
   ·exact .inr (by omega)
  ·have := hw4.size; omega
  ·exact ownsRow_keptB H3.out.2.1 fun b hb => hw4.frame b (H3.out.2.1.lt b hb).2 (hpK1 b hb))
 clear hJ4 hK4 hw4 hpK1 hboxK hboxp hk4
 go_wp2
 go_returns
 exact ⟨rfl, Hfin.out⟩

end Go.Proofs.YtbicoknghdgahaaGreat
