/-
  Schema.CopyInto, impl.fromSchema, impl.CopySchema, spec.Named.
-/
import Derived.Test.YtekaainjpddklaaSchFrom
set_option linter.unusedVariables false
set_option linter.unusedSimpArgs false
namespace Go.Proofs.Ytekaainjpddklaa
open Go.RowKit
attribute [local go_sem] run_store_float

/-- a schema's struct handed back; its memory is new -/
def GivesSchS (ts : List P) (w : World) (e : Ending) (w' : World) : Prop := ∃ (l : List Ytekaainjpddklaa.S) (A : Option Addr) (c : Nat), l.map Ytekaainjpddklaa.S.plain = ts ∧ e = .returned (.agg #[.slice A l.length c]) ∧ SchS (Fr w.heap.size w') w' l A c ∧ Below w.heap.size w w'

theorem tdefS_info : (Try.prog.info? 42).map (fun i => (i.zero, i.size, i.bytes)) = some (some (.agg #[.string ⟨#[]⟩, .string ⟨#[]⟩, .slice none 0 0, .slice none 0 0]), 4, 80) := by kernel_rfl

/-- at the head of a round of fromSchema -/
def FSInv (w : World) (L : List P) (s : Value) (W : World) : Prop :=
  ∃ (k : Nat) (out : Value) (us : List Value) (l : List Ytekaainjpddklaa.S), s = .int .i64 (k : Int) ∧ k ≤ L.length ∧ l.map Ytekaainjpddklaa.S.plain = L.take k ∧ Q2 w 33 33 #[.slice none 0 0] #[out] W ∧ W.ownsRow (w.heap.size + 1 + 1) 42 4 out k us ∧ Cells 4 (SAt (FrX (w.heap.size + 1 + 1) W out) W .def_) l us ∧ w.heap.size + 1 + 1 ≤ W.heap.size

set_option maxRecDepth 100000 in
set_option maxHeartbeats 4000000 in
theorem fromSchema_calls {ts : List P} {A : Option Addr} {c g : Nat} {w : World} (hg : g < w.heap.size) (hB : Bk w g 162 #[.slice A ts.length c]) (h : SchP (Old w) w ts A c) : Calls Try.prog 68 #[.pointer (some ⟨g, 0, none⟩)] w (GivesSchS ts w) := by
  obtain ⟨h1, h2, h3, xs, h4, h5⟩ := h
  have h1' : ts.length * 80 ≤ 140737488351232 := h1
  have H7 := hide (And.intro h1 (And.intro h4 h5))
  have HB := hide hB
  obtain ⟨i9, hi9, hz9, hs9, hb9⟩ := info_parts tdefS_info
  clear h1 h4 h5 hB
  go_enter Try.func68, Try.ntmps68
  go_upto_region 2 with fail
  have st : Q2 w 33 33 #[.slice none 0 0] #[.slice none 0 0] _ := Q2.made w 33 33 #[.slice none 0 0] #[.slice none 0 0]
  have hWs : w.heap.size + 1 + 1 ≤ ((w.alloc (.cells #[.slice none 0 0] 33)).alloc (.cells #[.slice none 0 0] 33)).heap.size := by simp
  generalize World.alloc (World.alloc w _) _ = W at st hWs ⊢
  have q0 := (HB.out.below st.below hg).cell 0
  simp at q0
  have hgw : g < W.heap.size := by omega
  have H2 := hide (And.intro st hWs)
  clear st hWs
  go_wp2_with fail
  go_loopw [11] (fun s W => FSInv w ts s W) (fun s _ => ts.length - (intOf s).toNat)
  case atStart => exact ⟨0, .slice none 0 0, [], [], rfl, Nat.zero_le _, rfl, H2.out.1, World.ownsRow_nil _ _ _ _, Cells.nil_, H2.out.2⟩
  case round =>
    clear q0 hgw
    obtain ⟨k, out, us, l, rfl, hk, hl, hq, hown, hus, hB⟩ := hrel
    by_cases hlt : k < ts.length
    · have hki0 : (0 : Int) ≤ (k : Int) := Int.natCast_nonneg _
      have hki1 : (k : Int) < (ts.length : Int) := by omega
      have hx := H7.out.2.2.at_ hlt
      have hsn : ts.take (k + 1) = ts.take k ++ [ts[k]] := List.take_succ_eq_append_getElem hlt
      generalize ts[k] = fx at *
      generalize hcs : (xs.drop (k * 4)).take 4 = fcs at hx
      obtain ⟨nm, x0, x1, x2, a, rfl, rfl, hn, ha⟩ := hx.def_form
      obtain ⟨rb, ro, rfl, hF, hc⟩ := rown_at H7.out.2.1 hlt hcs
      have hkc0 := hc 0 _ rfl
      rw [Nat.add_zero] at hkc0
      have hkc1 := hc 1 _ rfl
      have hkc2 := hc 2 _ rfl
      have hkc3 := hc 3 _ rfl
      have ec := (bcell hq.below).1
      rw [← ec _ _ hF] at hkc0 hkc1 hkc2 hkc3
      have hrb : rb < w.heap.size := hF
      have hgl0 := hq.a.lt
      have hgl1 := hq.b.lt
      have Hl := hide (show ∀ b : Ytekaainjpddklaa.S, b.plain = a → (l ++ [Ytekaainjpddklaa.S.def_ nm b]).map Ytekaainjpddklaa.S.plain = ts.take (k + 1) from fun b hb => by rw [hsn, List.map_append, hl, List.map_singleton, Ytekaainjpddklaa.S.plain, hb])
      have Hq := hide (And.intro hq (And.intro hown (And.intro hus (And.intro hB (And.intro ha hn)))))
      clear hq hown hus hB hx ha hsn hn hcs hc ec hl
      go_wp2_with fail
      have hbA : Below wr.heap.size wr (wr.alloc (.cells #[.string nm, .pointer x0, .pointer x1, .pointer x2] 94)) := (Below.refl _ _).alloc (Nat.le_refl _) _
      have hS0 : Bk (wr.alloc (.cells #[.string nm, .pointer x0, .pointer x1, .pointer x2] 94)).drew wr.heap.size 94 #[.string nm, .pointer x0, .pointer x1, .pointer x2] ∧ Bk (wr.alloc (.cells #[.string nm, .pointer x0, .pointer x1, .pointer x2] 94)).drew (w.heap.size + 1) 33 #[out] := ⟨Bk.new _ _ _, Hq.out.1.b.alloc _⟩
      obtain ⟨S, hS⟩ : ∃ S, (fun W => Bk W wr.heap.size 94 #[.string nm, .pointer x0, .pointer x1, .pointer x2] ∧ Bk W (w.heap.size + 1) 33 #[out]) = S := ⟨_, rfl⟩
      have hS0 : S (wr.alloc (.cells #[.string nm, .pointer x0, .pointer x1, .pointer x2] 94)).drew := by rw [← hS]; exact hS0
      refine wp_region_head 10 S (by rfl) (by kernel_rfl) ?_
      refine HT.take 0 (v := ?_) rfl (by kernel_rfl) (fun _ _ _ h => h) (Or.inl ⟨by rfl, ?_⟩) (by assumption) ?_
      rotate_left
      · intro W hSw; rw [← hS] at hSw; have hSw := show Bk W wr.heap.size 94 #[.string nm, .pointer x0, .pointer x1, .pointer x2] ∧ Bk W (w.heap.size + 1) 33 #[out] from hSw; have y0 := hSw.2.cell 0; have yl := hSw.2.lt; obtain ⟨hSw, -⟩ := hSw; have s0 := hSw.cell 0; have s1 := hSw.cell 1; have s2 := hSw.cell 2; have s3 := hSw.cell 3; clear hSw; simp at y0 s0 s1 s2 s3; go_simp; with_reducible rfl
      simp only [Act.put, List.setIfInBounds_toArray, List.set_cons_zero, List.set_cons_succ]
      refine HT.take 1 (v := ?_) rfl (by kernel_rfl) (fun _ _ _ h => h) (Or.inl ⟨by rfl, ?_⟩) (by assumption) ?_
      rotate_left
      · intro W hSw; rw [← hS] at hSw; have hSw := show Bk W wr.heap.size 94 #[.string nm, .pointer x0, .pointer x1, .pointer x2] ∧ Bk W (w.heap.size + 1) 33 #[out] from hSw; have y0 := hSw.2.cell 0; have yl := hSw.2.lt; obtain ⟨hSw, -⟩ := hSw; have s0 := hSw.cell 0; have s1 := hSw.cell 1; have s2 := hSw.cell 2; have s3 := hSw.cell 3; clear hSw; simp at y0 s0 s1 s2 s3; go_simp; with_reducible rfl
      simp only [Act.put, List.setIfInBounds_toArray, List.set_cons_zero, List.set_cons_succ]
      refine HT.take 2 (v := ?_) rfl (by kernel_rfl) (fun _ _ _ h => h) (Or.inl ⟨by rfl, ?_⟩) (by assumption) ?_
      rotate_left
      · intro W hSw; rw [← hS] at hSw; have hSw := show Bk W wr.heap.size 94 #[.string nm, .pointer x0, .pointer x1, .pointer x2] ∧ Bk W (w.heap.size + 1) 33 #[out] from hSw; have y0 := hSw.2.cell 0; have yl := hSw.2.lt; obtain ⟨hSw, -⟩ := hSw; have s0 := hSw.cell 0; have s1 := hSw.cell 1; have s2 := hSw.cell 2; have s3 := hSw.cell 3; clear hSw; simp at y0 s0 s1 s2 s3; go_simp; with_reducible rfl
      simp only [Act.put, List.setIfInBounds_toArray, List.set_cons_zero, List.set_cons_succ]
      refine HT.take 3 (v := ?_) rfl (by kernel_rfl) (fun _ _ _ h => h) (Or.inl ⟨by rfl, ?_⟩) (by assumption) ?_
      rotate_left
      · intro W hSw; rw [← hS] at hSw; have hSw := show Bk W wr.heap.size 94 #[.string nm, .pointer x0, .pointer x1, .pointer x2] ∧ Bk W (w.heap.size + 1) 33 #[out] from hSw; have y0 := hSw.2.cell 0; have yl := hSw.2.lt; obtain ⟨hSw, -⟩ := hSw; have s0 := hSw.cell 0; have s1 := hSw.cell 1; have s2 := hSw.cell 2; have s3 := hSw.cell 3; clear hSw; simp at y0 s0 s1 s2 s3; go_simp; with_reducible rfl
      simp only [Act.put, List.setIfInBounds_toArray, List.set_cons_zero, List.set_cons_succ]
      refine HT.take 4 (v := ?_) rfl (by kernel_rfl) (fun _ _ _ h => h) (Or.inl ⟨by rfl, ?_⟩) (by assumption) ?_
      rotate_left
      · intro W hSw; rw [← hS] at hSw; have hSw := show Bk W wr.heap.size 94 #[.string nm, .pointer x0, .pointer x1, .pointer x2] ∧ Bk W (w.heap.size + 1) 33 #[out] from hSw; have y0 := hSw.2.cell 0; have yl := hSw.2.lt; obtain ⟨hSw, -⟩ := hSw; have s0 := hSw.cell 0; have s1 := hSw.cell 1; have s2 := hSw.cell 2; have s3 := hSw.cell 3; clear hSw; simp at y0 s0 s1 s2 s3; go_simp; with_reducible rfl
      simp only [Act.put, List.setIfInBounds_toArray, List.set_cons_zero, List.set_cons_succ]
      refine HT.take 5 (v := ?_) rfl (by kernel_rfl) (fun _ _ _ h => h) (Or.inl ⟨by rfl, ?_⟩) (by assumption) ?_
      rotate_left
      · intro W hSw; rw [← hS] at hSw; have hSw := show Bk W wr.heap.size 94 #[.string nm, .pointer x0, .pointer x1, .pointer x2] ∧ Bk W (w.heap.size + 1) 33 #[out] from hSw; have y0 := hSw.2.cell 0; have yl := hSw.2.lt; obtain ⟨hSw, -⟩ := hSw; have s0 := hSw.cell 0; have s1 := hSw.cell 1; have s2 := hSw.cell 2; have s3 := hSw.cell 3; clear hSw; simp at y0 s0 s1 s2 s3; go_simp; with_reducible rfl
      simp only [Act.put, List.setIfInBounds_toArray, List.set_cons_zero, List.set_cons_succ]
      refine HT.one 6 rfl (by kernel_rfl) (by rfl) (fun K hK => ?_)
      go_simp
      have hbw : Below w.heap.size w (wr.alloc (.cells #[.string nm, .pointer x0, .pointer x1, .pointer x2] 94)).drew := below_drew (Hq.out.1.below.trans (hbA.mono Hq.out.1.below.size))
      refine (fromAtom_calls (Hq.out.2.2.2.2.1.at_ hbw)).mono ?_
      rintro e w1 ⟨b, gs, hpl, rfl, hp, hb1⟩
      have hb1' := hb1
      have hp : SAt (Fr wr.heap.size w1) w1 .atom _ gs := hp.mono fun b hb => ⟨by have := hb.1; rw [World.size_drew, World.size_alloc] at this; omega, hb.2⟩
      have hb1 : Below wr.heap.size wr w1 := hbA.trans ((below_drew' hb1).mono hbA.size)
      obtain ⟨f0, f1, f2, f3, f4, f5, f6, rfl⟩ := hp.atom_form
      go_simp
      have hS1 : S w1 := by rw [← hS]; exact ⟨(Bk.new wr _ _).below (below_drew' hb1') (by simp), Hq.out.1.b.below hb1 Hq.out.1.b.lt⟩
      refine hK.out _ _ hS1 ?_
      clear hK
      refine HT.take 7 (v := ?_) rfl (by kernel_rfl) (fun _ _ _ h => h) (Or.inl ⟨by rfl, ?_⟩) (by assumption) ?_
      rotate_left
      · intro W hSw; go_simp; with_reducible rfl
      simp only [Act.put, List.setIfInBounds_toArray, List.set_cons_zero, List.set_cons_succ]
      refine HT.one 8 rfl (by kernel_rfl) (by rfl) (fun K hK => ?_)
      go_simp
      have hbL : Below wr.heap.size wr (w1.alloc (.cells #[.string nm, .string f0, .slice f1 f2 f3, .slice f4 f5 f6] 42)) := hb1.alloc hb1.size _
      refine hK.out _ _ (by rw [← hS]; exact ⟨((Bk.new wr _ _).below (below_drew' hb1') (by simp)).alloc _, Hq.out.1.b.below hbL Hq.out.1.b.lt⟩) ?_
      clear hK
      refine HT.one 9 rfl (by kernel_rfl) (by rfl) (fun K hK => ?_)
      have hownL := (ownsRow_below Hq.out.2.1 hb1 (Nat.le_refl _)).alloc (.cells #[.string nm, .string f0, .slice f1 f2 f3, .slice f4 f5 f6] 42)
      have hszL := hbL.size
      refine wp_append_row _ (.tmp 16) (.tmp 23) 31 rfl (w.heap.size + 1 + 1) 42 i9 _ 4 80 Try.underlying31 hi9 hz9 hs9 hb9 rfl (by omega) _ k us rfl hownL (fun _ => True) (some ⟨w1.heap.size, 0, none⟩) 1 1 [.string nm, .string f0, .slice f1 f2 f3, .slice f4 f5 f6] rfl (Row.of_bk (Bk.new w1 42 [.string nm, .string f0, .slice f1 f2 f3, .slice f4 f5 f6].toArray) rfl trivial) (by simp [Value.oneCell']) (by omega) (by omega) (by have := Hq.out.2.2.2.1; omega) ?_
      intro out' w2 hown2 hg2 hat2
      have hlo : ∀ k, out.ownBlock = some k → w.heap.size + 1 + 1 ≤ k ∧ k < wr.heap.size := Hq.out.2.1.lt
      have hqL := Hq.out.1.call hbL
      have hq2 : Q2 w 33 33 #[.slice none 0 0] #[out'] (w2.setCell ⟨w.heap.size + 1, 0, none⟩ out') := by
        refine ⟨(hqL.below.grown hg2 hqL.below.size fun k e => by have := hlo k e; omega).setCell (by simp only; omega) _, (hqL.a.grown hg2 (fun e => by have := (hlo _ e.symm).1; omega)).far (by simp only; omega) _, ?_⟩
        have := (hqL.b.grown hg2 (fun e => by have := (hlo _ e.symm).1; omega)).set_ 0 out'
        simpa using this
      have hcs := cells_step (Q := fun F w a cs => SAt F w .def_ a cs) (a := Ytekaainjpddklaa.S.def_ nm b) (fun h k => h.keeps k) (fun h k => h.mono k) Hq.out.2.1 Hq.out.2.2.1 Hq.out.2.2.2.1 (.def_ Hq.out.2.2.2.2.2 hp) rfl hb1 hg2 hat2
      have hbk2 : Bk w2 wr.heap.size 94 #[.string nm, .pointer x0, .pointer x1, .pointer x2] := (((Bk.new wr _ _).below (below_drew' hb1') (by simp)).alloc _).grown hg2 (fun e => by have := (hlo _ e.symm).2; omega)
      have hgb2 : Bk w2 (w.heap.size + 1) 33 #[out] := hqL.b.grown hg2 (fun e => by have := (hlo _ e.symm).1; omega)
      have hsz2 : w.heap.size + 1 + 1 ≤ (w2.setCell ⟨w.heap.size + 1, 0, none⟩ out').heap.size := by
        have := hcs.2
        simpa using this
      have hcs2 : Cells 4 (SAt (FrX (w.heap.size + 1 + 1) (w2.setCell ⟨w.heap.size + 1, 0, none⟩ out') out') (w2.setCell ⟨w.heap.size + 1, 0, none⟩ out') .def_) (l ++ [Ytekaainjpddklaa.S.def_ nm b]) (us ++ [.string nm, .string f0, .slice f1 f2 f3, .slice f4 f5 f6]) := by
        refine hcs.1.mono fun a cs h => (h.keeps (Keeps.setCell _ _ _ fun x hx => ?_)).mono fun b hb => ⟨hb.1, by simpa using hb.2.1, hb.2.2⟩
        have := hx.1
        simp only
        omega
      have hown3 := ownsRow_setCell_below hown2 (a := ⟨w.heap.size + 1, 0, none⟩) (by simp only; omega) out'
      have hgl2 := hgb2.lt
      have fz2 := hgb2.free
      have yy := hgb2.cell 0
      simp at yy
      have Hfin := hide (And.intro hq2 (And.intro hown3 (And.intro hcs2 (And.intro hsz2 (Hl.out b hpl)))))
      obtain ⟨oA, oc, rfl, _, _⟩ := own_form hown2
      go_simp
      refine hK.out _ _ (by rw [← hS]; exact ⟨hbk2, hgb2⟩) ?_
      clear hK
      refine HT.done (by kernel_rfl) ?_
      simp only [List.drop_succ_cons, List.drop_zero]
      clear hS0 hS hS1 hbL hownL hszL hown2 hg2 hat2 hlo hq2 hqL hcs hbk2 hgb2 hsz2 hcs2 hown3 hp hb1 hb1' hbw hbA hpl Hl
      go_wp2_with fail
      exact ⟨⟨k + 1, _, _, _, by go_num, by omega, Hfin.out.2.2.2.2, Hfin.out.1, Hfin.out.2.1, Hfin.out.2.2.1, Hfin.out.2.2.2.1⟩, by simp [intOf]; omega⟩
    · have hke : k = ts.length := by omega
      subst hke
      have hki1 : ¬ ((ts.length : Nat) : Int) < (ts.length : Int) := by omega
      rw [List.take_length] at hl
      obtain ⟨oA, oc, rfl, hc1, hc2⟩ := own_form hown
      have hlt := hown.lt
      have hll : l.length = ts.length := by rw [← hl, List.length_map]
      have hfin : SchS (FrX (w.heap.size + 1 + 1) wr (.pointer none)) wr l oA oc := by
        refine ⟨by rw [hll]; exact H7.out.1, by rw [hll]; exact hc1, hc2, us, by rw [hll]; exact Row.of_own hown fun b hb => ⟨(hlt b hb).1, (hlt b hb).2, by simp [Value.ownBlock]⟩, hus.mono fun a cs h => h.mono fun b hb => ⟨hb.1, hb.2.1, by simp [Value.ownBlock]⟩⟩
      have r0 := hq.a.cell 0
      have t0 := hq.b.cell 0
      simp at r0 t0
      have hgl0 := hq.a.lt
      have hgl1 := hq.b.lt
      have fz := hq.a.free
      have H3 := hide (And.intro hq (And.intro hfin (And.intro hl hll)))
      clear hq hown hus hB hlt hc1 hc2 hfin hl hll
      go_wp2
      refine bodyPost_ret (results_cell_row rfl _ _ w.heap.size 33 #[.slice oA ts.length oc] (0, 0) _ rfl (show Bk _ _ _ #[Value.slice oA ts.length oc] from by simpa using H3.out.1.a.set_ 0 (.slice oA ts.length oc)) Try.underlying33 rfl (by kernel_rfl)) rfl ?_
      refine ⟨l, oA, oc, H3.out.2.2.1, by rw [H3.out.2.2.2], (H3.out.2.1.keeps (Keeps.setCell _ _ _ fun x hx => ?_)).mono fun b hb => ⟨by have := hb.1; omega, by simpa using hb.2.1⟩, H3.out.1.below.setCell (by simp) _⟩
      have := hx.1
      simp only
      omega

set_option maxRecDepth 100000 in
theorem copyInto_calls (g d : Nat) (v u : Value) (w : World) (hg : Bk w g 162 #[v]) (hd : Bk w d 162 #[u]) (hv : ∃ A n c, v = .slice A n c) (hne : g ≠ d) :
    Calls Try.prog 67 #[.pointer (some ⟨g, 0, none⟩), .pointer (some ⟨d, 0, none⟩)] w fun e w' => e = .returned (.tuple #[]) ∧ w' = w.setCell ⟨d, 0, none⟩ v := by
  obtain ⟨A, n, c, rfl⟩ := hv
  have q0 := hg.cell 0
  have d0 := hd.cell 0
  simp at q0 d0
  have hgl := hg.lt
  have hdl := hd.lt
  have fz := hd.free
  go_enter Try.func67, Try.ntmps67
  go_wp2
  go_end0
  exact ⟨rfl, rfl⟩

set_option maxRecDepth 100000 in
set_option maxHeartbeats 4000000 in
theorem copySchema_calls {ts us : List Ytekaainjpddklaa.S} {TA UA : Option Addr} {tc uc : Nat} {w : World} (h : SchS (Old w) w ts TA tc) (k : SchS (Old w) w us UA uc) :
    Calls Try.prog 23 #[.agg #[.slice TA ts.length tc], .agg #[.slice UA us.length uc]] w (GivesSchS (ts.map Ytekaainjpddklaa.S.plain) w) := by
  have HS := hide fun (W : World) (hb : Below w.heap.size w W) => toSchema_calls (h.at_ hb)
  have HU := hide fun (W : World) (hb : Below w.heap.size w W) => toSchema_calls (k.at_ hb)
  generalize ts.map Ytekaainjpddklaa.S.plain = ps at *
  generalize us.map Ytekaainjpddklaa.S.plain = qs at *
  clear h k
  generalize ts.length = tn at *
  generalize us.length = un at *
  go_enter Try.func23, Try.ntmps23
  go_upto_region 1 with fail
  have st := Q3.made w 33 33 33 #[.slice TA tn tc] #[.slice UA un uc] #[.slice none 0 0]
  generalize World.alloc (World.alloc (World.alloc w _) _) _ = W at st ⊢
  have q0 := st.a.cell 0
  have k0 := st.b.cell 0
  simp at q0 k0
  have hl0 := st.a.lt
  have hl1 := st.b.lt
  have H0 := hide st
  clear st
  go_wp2_with fail
  refine (HU.out W H0.out.below).mono ?_
  rintro e w1 ⟨d, DA, dc, rfl, hd, hDB, -, hb1⟩
  have st1 := H0.out.call hb1
  have hlc := H0.out.c.lt
  have hds := hd.1
  clear q0 k0 hl0 hl1 H0 hb1
  have q0 := st1.a.cell 0
  simp at q0
  have hl0 := st1.a.lt
  have H1 := hide (And.intro st1 hDB)
  clear st1
  go_wp2_with fail
  refine (HS.out w1 H1.out.1.below).mono ?_
  rintro e w2 ⟨g, GA, gc, rfl, hg, hGB, hGP, hb2⟩
  have st2 := H1.out.1.call hb2
  have hDB2 := H1.out.2.below hb2 H1.out.2.lt
  have hdl := H1.out.2.lt
  have hgs := hg.1
  have H2 := hide (And.intro st2 (And.intro hDB2 (And.intro hGB hGP)))
  clear st2 hDB2 hGB hGP hb2 H1 q0 hl0 hg hDB hd
  go_wp2_with fail
  refine (copyInto_calls g d _ _ w2 H2.out.2.2.1 H2.out.2.1 ⟨_, _, _, rfl⟩ (by omega)).mono ?_
  rintro e w3 ⟨rfl, hw3⟩
  have hk3 : ∀ b, b ≠ d → w3.heap[b]? = w2.heap[b]? := fun b hb => by rw [hw3]; exact Below.heap_setCell _ _ _ _ hb
  have hz3 : w3.heap.size = w2.heap.size := by rw [hw3]; simp
  have hb3 : Below w.heap.size w w3 := by rw [hw3]; exact H2.out.1.below.setCell (by simp only; omega) _
  have st3 : Q3 w 33 33 33 #[.slice TA tn tc] #[.slice UA un uc] #[.slice none 0 0] w3 := ⟨hb3, (hk3 _ (by omega)).trans H2.out.1.a, (hk3 _ (by omega)).trans H2.out.1.b, (hk3 _ (by omega)).trans H2.out.1.c⟩
  have hD3 : Bk w3 d 162 #[.slice GA ps.length gc] := by
    rw [hw3]
    have := H2.out.2.1.set_ 0 (.slice GA ps.length gc)
    simpa using this
  have hP3 : SchP (Old w3) w3 ps GA gc := (H2.out.2.2.2.keeps fun b hb => hk3 b (by have := hb.1; omega)).mono fun b hb => by have := hb.2; unfold Old; omega
  have HF := hide (fromSchema_calls hD3.lt hD3 hP3)
  have H3 := hide st3
  have hlc3 := st3.c.lt
  clear hk3 hz3 hb3 st3 hD3 hP3 hw3 H2 HS HU
  go_wp2_with fail
  refine HF.out.mono ?_
  rintro e w4 ⟨l, LA, lc, hpl, rfl, hl, hb4⟩
  have st4 := H3.out.call hb4
  have r0 := st4.c.cell 0
  simp at r0
  have hgl := st4.c.lt
  have fz := st4.c.free
  have H4 := hide (And.intro st4 (And.intro hpl hl))
  obtain ⟨ln, hln⟩ : ∃ ln, l.length = ln := ⟨_, rfl⟩
  rw [hln]
  have Hln := hide hln
  clear st4 hpl hl hb4 hln HF H3
  go_wp2
  refine bodyPost_ret (results_cell_row rfl _ _ (w.heap.size + 1 + 1) 33 #[.slice LA ln lc] (0, 0) _ rfl (show Bk _ _ _ #[Value.slice LA ln lc] from by simpa using H4.out.1.c.set_ 0 (.slice LA ln lc)) Try.underlying33 rfl (by kernel_rfl)) rfl ?_
  refine ⟨l, LA, lc, H4.out.2.1, by rw [Hln.out], (H4.out.2.2.keeps (Keeps.setCell _ _ _ fun x hx => ?_)).mono fun b hb => ⟨by have := hb.1; omega, by simpa using hb.2⟩, H4.out.1.below.setCell (by simp only; omega) _⟩
  have := hx.1
  simp only
  omega

end Go.Proofs.Ytekaainjpddklaa
