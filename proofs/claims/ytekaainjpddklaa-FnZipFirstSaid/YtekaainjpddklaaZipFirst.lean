/-
  impl.ZipFirst: the first keys of two maps in order, each with what lies under it in either.
-/
import Derived.Test.YtekaainjpddklaaZipMaps
set_option linter.unusedVariables false
set_option linter.unusedSimpArgs false
namespace Go.Proofs.Ytekaainjpddklaa
open Go.RowKit
attribute [local go_sem] run_store_float

/-- between two keys: fewer than n have been listed -/
def ZJF (w : World) (gv gn : Nat) (n : Int) (l1 l2 : List (ByteArray × T)) (B i : Nat) (W : World) : Prop := ZJ w gv l1 l2 B i W ∧ Bk W gn 3 #[.int .i64 n] ∧ (i : Int) < n
/-- n have been listed -/
def ZFf (w : World) (gv : Nat) (n : Int) (l1 l2 : List (ByteArray × T)) (W : World) : Prop := ∃ B i, ZJ w gv l1 l2 B i W ∧ (i : Int) = n

set_option maxRecDepth 100000 in
set_option maxHeartbeats 2000000 in
theorem zipFirstClosure_calls {w : World} {gv gn : Nat} {n : Int} {l1 l2 : List (ByteArray × T)} (hgvw : gv < w.heap.size) (hgnw : gn < w.heap.size) (hne : gn ≠ gv) (hno : okInt n) (hsm : (bothK l1 l2).length ≤ 8589934592) (B i : Nat) (k : ByteArray) (W : World) (lv rv : Value) (hk : (bothK l1 l2)[i]? = some k) (hj : ZJF w gv gn n l1 l2 B i W) (hwB : w.heap.size ≤ B) (hB : B ≤ W.heap.size) (hv1 : ItemV W (getT l1 k) lv) (hv2 : ItemV W (getT l2 k) rv) :
    Calls Try.prog 75 #[.string k, lv, rv, .pointer (some ⟨gv, 0, none⟩), .pointer (some ⟨gn, 0, none⟩)] W fun e W' => ((e = .returned (.bool true) ∧ ZJF w gv gn n l1 l2 B (i + 1) W') ∨ (e = .returned (.bool false) ∧ ZFf w gv n l1 l2 W')) ∧ ButS (fun b => b = gv ∨ B ≤ b) W W' := by
  obtain ⟨i57, hi57, hz57, hs57, hb57⟩ := info_parts zipped_info
  obtain ⟨⟨A, c, us, hgv, hown, hus, hil, _⟩, hgn, hin⟩ := hj
  have hil' := (List.getElem?_eq_some_iff.1 hk).1
  have Hend := fun g W5 w6 va vb out' o2 hg => hide (zj_next (w := w) (W5 := W5) (w6 := w6) (g := g) (va := va) (vb := vb) (out' := out') (o2 := o2) hwB (Nat.lt_of_lt_of_le hgvw hwB) hB hg hk hgv hown hus)
  have Hgv := hide (And.intro hgv hown)
  have Hv1 := hide hv1
  have hv2w := fun W' (hb : Below W.heap.size W W') => hv2.below hb
  have Hv2 := hide hv2w
  have hf1 := hv1.form
  have hf2 := hv2.form
  have hgvl : gv < W.heap.size := hgv.lt
  have hgnl : gn < W.heap.size := hgn.lt
  have hno1 := hno.1
  have hno2 := hno.2
  have Hgn := hide hgn
  clear hgn hno
  clear hgv hown hus hv1 hv2 hk hv2w
  cases hg1 : getT l1 k
  case' none =>
    have e1 : lv = .nilIface := by have := Hv1.out; rw [hg1] at this; exact this
    subst e1
    rw [hg1] at Hend
    clear hg1 hf1 Hv1
    go_enter Try.func75, Try.ntmps75
    go_upto_region 4 with fail
    have st := ZMid.first W k
    generalize World.alloc _ _ = W5 at st ⊢
    obtain ⟨o1, ho1⟩ : ∃ o, o = (none : Option T) := ⟨_, rfl⟩
    rw [← ho1] at Hend
    obtain ⟨a1, n1, c1, hva⟩ : ∃ (a : Option Addr) (n c : Nat), Value.slice none 0 0 = .slice a n c := ⟨_, _, _, rfl⟩
    replace st : ZMid W k (.slice a1 n1 c1) (.slice none 0 0) o1 none W5 := by rw [← hva, ho1]; exact st
    have h0 := hide (And.intro ho1 hva)
    clear ho1 hva
  case' some t =>
    have hval : ValAt (Old W) W t lv := by have := Hv1.out; rw [hg1] at this; exact this
    rw [hg1] at Hend
    have Hval := hide hval
    obtain ⟨p, rfl⟩ : ∃ p, lv = .iface 182 (.pointer (some p)) := by
      obtain ⟨g, u, e, _⟩ := hval
      exact ⟨_, e⟩
    clear hg1 hf1 Hv1 hval
    go_enter Try.func75, Try.ntmps75
    go_wp2_with fail
    have st := ZMid.first W k
    have hb0 := st.below
    generalize World.alloc _ _ = W0 at st hb0 ⊢
    refine (fromValue_calls (Hval.out.at_ hb0)).mono ?_
    rintro e w1 ⟨cs, rfl, hcc, hb1⟩
    obtain ⟨d0, d1, d2, d3, KA, kl, kc, LA, ll, lc, rfl⟩ := hcc.form
    have hz1 := (st.call hb1).z
    have st := st.setA hb1 hcc
    have p1 := hz1.cell 1
    have p6 : ∀ i, w1.frozen? ⟨W.heap.size, i, none⟩ = false := fun i => hz1.free i
    have hzl : W.heap.size < w1.heap.size := hz1.lt
    simp at p1
    have St := hide st
    clear hcc hz1 hb1 hb0 st
    go_upto_region 4 with fail
    have st := St.out
    generalize World.alloc _ _ = W5 at st ⊢
    obtain ⟨o1, ho1⟩ : ∃ o, o = some t := ⟨_, rfl⟩
    obtain ⟨a1, n1, c1, hva⟩ : ∃ (a : Option Addr) (n c : Nat), Value.slice (some ⟨w1.heap.size, 0, none⟩) 1 1 = .slice a n c := ⟨_, _, _, rfl⟩
    rw [← ho1] at Hend
    replace st : ZMid W k (.slice a1 n1 c1) (.slice none 0 0) o1 none W5 := by rw [← hva, ho1]; exact st
    have h0 := hide (And.intro ho1 hva)
    clear ho1 hva St p1 p6 hzl
  all_goals
    have Hv3 := hide (Hv2.out W5 st.below)
    cases hg2 : getT l2 k
    case' none =>
      have e2 : rv = .nilIface := by have := Hv3.out; rw [hg2] at this; exact this
      subst e2
      rw [hg2] at Hend
      clear hg2 hf2 Hv2 Hv3
      have St := hide st
      clear st
      go_upto_region 6 with fail
      have st := St.out
      obtain ⟨o2, ho2⟩ : ∃ o, o = (none : Option T) := ⟨_, rfl⟩
      obtain ⟨a2, n2, c2, hvb⟩ : ∃ (a : Option Addr) (n c : Nat), Value.slice none 0 0 = .slice a n c := ⟨_, _, _, rfl⟩
      rw [← ho2] at Hend
      replace st : ZMid W k (.slice a1 n1 c1) (.slice a2 n2 c2) o1 o2 W5 := by rw [← hvb, ho2]; exact st
      have h0' := hide (And.intro ho2 hvb)
      clear ho2 hvb St
    case' some t2 =>
      have hval : ValAt (Old W5) W5 t2 rv := by have := Hv3.out; rw [hg2] at this; exact this
      rw [hg2] at Hend
      have Hval := hide hval
      obtain ⟨p, rfl⟩ : ∃ p, rv = .iface 182 (.pointer (some p)) := by
        obtain ⟨g, u, e, _⟩ := hval
        exact ⟨_, e⟩
      clear hg2 hf2 Hv2 hval Hv3
      have St := hide st
      clear st
      go_wp2_with fail
      refine (fromValue_calls Hval.out).mono ?_
      rintro e w2 ⟨cs2, rfl, hcc, hb1⟩
      obtain ⟨d0, d1, d2, d3, KA, kl, kc, LA, ll, lc, rfl⟩ := hcc.form
      have hz1 := (St.out.call hb1).z
      have St2 := hide (St.out.setB hb1 hcc)
      have p1 := hz1.cell 2
      have p6 : ∀ i, w2.frozen? ⟨W.heap.size, i, none⟩ = false := fun i => hz1.free i
      have hzl : W.heap.size < w2.heap.size := hz1.lt
      simp at p1
      clear hcc hz1 hb1
      go_upto_region 6 with fail
      have st := St2.out
      generalize World.alloc _ _ = W6 at st ⊢
      clear St
      obtain ⟨o2, ho2⟩ : ∃ o, o = some t2 := ⟨_, rfl⟩
      obtain ⟨a2, n2, c2, hvb⟩ : ∃ (a : Option Addr) (n c : Nat), Value.slice (some ⟨w2.heap.size, 0, none⟩) 1 1 = .slice a n c := ⟨_, _, _, rfl⟩
      rw [← ho2] at Hend
      replace st : ZMid W k (.slice a1 n1 c1) (.slice a2 n2 c2) o1 o2 W6 := by rw [← hvb, ho2]; exact st
      have h0' := hide (And.intro ho2 hvb)
      clear ho2 hvb St2 p1 p6 hzl
  all_goals
    have hgv5 := (Hgv.out.1.below st.below hgvl)
    have q0 := hgv5.cell 0
    have q6 : ∀ j, World.frozen? _ ⟨gv, j, none⟩ = false := fun j => hgv5.free j
    have z0 := st.z.cell 0
    have z1 := st.z.cell 1
    have z2 := st.z.cell 2
    simp at q0 z0 z1 z2
    have hBw := st.below.size
    have hown5 := ownsRow_below Hgv.out.2 st.below (Nat.le_refl _)
    have Hgv5 := hide (And.intro hgv5 hown5)
    have St := hide st
    have h16 : (i + 1) * 64 ≤ 140737488355328 := by omega
    have h17 : i + 1 ≤ 8589934592 := by omega
    clear hgv5 hown5 st
    go_wp2_with (at_builtin; refine wpList_append_own_at _ rfl (.tmp 24) (.tmp 26) 53 rfl B 57 i57 _ 3 64 Try.underlying53 hi57 hz57 hs57 hb57 rfl (by omega) _ i us rfl (Hgv5.out.2.alloc _) ⟨World.heap _ |>.size, 0, none⟩ 1 1 [.string k, .slice a1 n1 c1, .slice a2 n2 c2] rfl rfl (cells_at _ [.string k, .slice a1 n1 c1, .slice a2 n2 c2] _ _ rfl) ?c1 ?c2 ?c3 ?c4 ?_)
    case c1 => simp [Value.oneCell']
    case c2 => unfold maxLen; omega
    case c3 => exact h16
    case c4 => simp only [World.size_alloc]; omega
    intro out' w7 hown7 hg7 _ hat7
    have Hfin := hide ((Hend W.heap.size _ w7 _ _ out' _ (Nat.le_refl _)).out St.out.below (St.out.a.mono fun b hb => ⟨by have := hb.1; omega, hb.2⟩) (St.out.b.mono fun b hb => ⟨by have := hb.1; omega, hb.2⟩) hown7 hg7 (by rw [World.size_alloc]; exact hat7))
    have hgv7 : Bk w7 gv 53 #[.slice A i c] := (Hgv5.out.1.alloc _).grown hg7 (fun e => by have := (Hgv5.out.2.lt _ e.symm).1; omega)
    have p0 := hgv7.cell 0
    have p6 : ∀ j, w7.frozen? ⟨gv, j, none⟩ = false := fun j => hgv7.free j
    simp at p0
    obtain ⟨oA, oc, rfl, _, _⟩ := own_form hown7
    have hgn7 : Bk w7 gn 3 #[.int .i64 n] := ((Hgn.out.below St.out.below hgnl).alloc _).grown hg7 (fun e => by have := (Hgv5.out.2.lt _ e.symm).1; omega)
    have r0 := hgn7.cell 0
    simp at r0
    have hgn8 := hgn7.far (p := ⟨gv, 0, none⟩) hne (.slice oA (i + 1) oc)
    have Hgn8 := hide hgn8
    clear Hend hown7 hg7 hat7 hgv7 Hgv5 St q0 q6 z0 z1 z2 hgn7 hgn8
    by_cases hlt : (i : Int) + 1 < n
    · go_wp2
      go_ret
      exact ⟨.inl ⟨rfl, Hfin.out.1, Hgn8.out, by omega⟩, Hfin.out.2⟩
    · go_wp2
      go_ret
      exact ⟨.inr ⟨rfl, B, i + 1, Hfin.out.1, by omega⟩, Hfin.out.2⟩

theorem zipStep_first {w : World} {gv gn : Nat} {n : Int} {l1 l2 : List (ByteArray × T)} (hg : Bk w gv 53 #[.slice none 0 0]) (hgn : Bk w gn 3 #[.int .i64 n]) (hne : gn ≠ gv) (hno : okInt n) (hn : 1 ≤ n) (hsm : (bothK l1 l2).length ≤ 8589934592) :
    ZipStep 75 #[.pointer (some ⟨gv, 0, none⟩), .pointer (some ⟨gn, 0, none⟩)] l1 l2 w (fun b => b = gv) (ZJF w gv gn n l1 l2) (ZFf w gv n l1 l2) where
  start W hb := ⟨⟨none, 0, [], hg.below hb hg.lt, World.ownsRow_nil _ _ _ _, Cells.nil_, Nat.zero_le _, hb.size⟩, hgn.below hb hgn.lt, by omega⟩
  keep B i W W' h hb := ⟨h.1.keep hb, h.2.1.below hb h.2.1.lt, h.2.2⟩
  step B i k W lv rv hk hj hwB hB h1 h2 := zipFirstClosure_calls hg.lt hgn.lt hne hno hsm B i k W lv rv hk hj hwB hB h1 h2

theorem zip_gives_i {w W w' : World} {gv : Nat} {l1 l2 : List (ByteArray × T)} {B i : Nat} (hw : Below w.heap.size w W) (hgv : w.heap.size ≤ gv) (h : ZJ W gv l1 l2 B i w') (hb : ButS (fun b => b = gv) W w') :
    ∃ A c us, Bk w' gv 53 #[.slice A ((bothK l1 l2).take i).length c] ∧ ((bothK l1 l2).take i).length ≤ c ∧ c ≤ maxLen ∧ Row (Fr w.heap.size w') w' 3 A ((bothK l1 l2).take i).length us ∧ Cells 3 (ZAt (Fr w.heap.size w') w' l1 l2) ((bothK l1 l2).take i) us ∧ Below w.heap.size w w' := by
  obtain ⟨A, c, us, h1, h2, h3, h4, h5⟩ := h
  have hs := hw.size
  have hlt := h2.lt
  obtain ⟨_, _, e, h6, h7⟩ := own_form h2
  cases e
  have el : ((bothK l1 l2).take i).length = i := by rw [List.length_take]; omega
  rw [el]
  exact ⟨A, c, us, h1, h6, h7, Row.of_own h2 fun g hg => ⟨by have := (hlt g hg).1; omega, (hlt g hg).2⟩, h3.mono fun a cs hz => hz.mono fun b hb => ⟨by have := hb.1; omega, hb.2.1⟩,
    ⟨hb.os.trans hw.os, hb.tape.trans hw.tape, hb.output.trans hw.output, Nat.le_trans hw.size hb.size, fun b hbb => (hb.block b (by omega) (by omega)).trans (hw.block b hbb)⟩⟩

set_option maxRecDepth 100000 in
set_option maxHeartbeats 2000000 in
theorem zipFirst_calls (r1 r2 : RV) (n : Int) (hno : okInt n) (hn : 1 ≤ n) (w : World) (cs1 cs2 : List Value) (h1 : RVAt (Old w) w r1 cs1) (h2 : RVAt (Old w) w r2 cs2) (hsm : (bothK r1.flds r2.flds).length ≤ 8589934592) :
    Calls Try.prog 29 #[.agg cs1.toArray, .agg cs2.toArray, .int .i64 n] w (GivesZip ((bothK r1.flds r2.flds).take n.toNat) r1.flds r2.flds w) := by
  have H1 := hide fun (W : World) (hb : Below w.heap.size w W) => toMapping_calls r1 W _ (h1.at_ hb)
  have H2 := hide fun (W : World) (hb : Below w.heap.size w W) => toMapping_calls r2 W _ (h2.at_ hb)
  generalize r1.flds = l1 at *
  generalize r2.flds = l2 at *
  obtain ⟨a0, a1, a2, a3, a4, a5, rfl⟩ := h1.six
  obtain ⟨b0, b1, b2, b3, b4, b5, rfl⟩ := h2.six
  have Hsm := hide hsm
  have Hno := hide (And.intro hno hn)
  obtain ⟨kk, hkk⟩ : ∃ kk, (bothK l1 l2).take n.toNat = kk := ⟨_, rfl⟩
  rw [hkk]
  have Hkk := hide hkk
  clear h1 h2 hsm hno hn hkk
  go_enter Try.func29, Try.ntmps29
  go_wp2_with fail
  generalize hW : World.alloc _ _ = W
  have hb0 : Below w.heap.size w ((w.alloc (.cells #[a0, a1, a2, a3, a4, a5] 26)).alloc (.cells #[b0, b1, b2, b3, b4, b5] 26)) := below_two _ _ _
  have hx0 : Bx2 w.heap.size (w.heap.size + 1) a0 a1 a2 a3 a4 a5 b0 b1 b2 b3 b4 b5 ((w.alloc (.cells #[a0, a1, a2, a3, a4, a5] 26)).alloc (.cells #[b0, b1, b2, b3, b4, b5] 26)) := Bx2.made _ _ _ _ _ _ _ _ _ _ _ _ _ _ _
  have hz0 : ((w.alloc (.cells #[a0, a1, a2, a3, a4, a5] 26)).alloc (.cells #[b0, b1, b2, b3, b4, b5] 26)).heap.size = w.heap.size + 2 := by simp
  generalize World.alloc (World.alloc w _) _ = Wz at hW hb0 hx0 hz0
  have hb : Below w.heap.size w W := by rw [← hW]; exact hb0.trans ((below_two _ _ _).mono (by omega))
  have hsz : w.heap.size + 3 < W.heap.size := by rw [← hW]; simp [hz0]
  have hx : Bx2 w.heap.size (w.heap.size + 1) a0 a1 a2 a3 a4 a5 b0 b1 b2 b3 b4 b5 W := by rw [← hW]; exact hx0.below (below_two _ _ _) (by omega) (by omega)
  have hgn : Bk W (w.heap.size + 2) 3 #[.int .i64 n] := by
    rw [← hW]
    have := (Bk.new Wz 3 #[.int .i64 n]).alloc (.cells #[.slice none 0 0] 53)
    rw [hz0] at this
    exact this
  have hv : Bk W (w.heap.size + 3) 53 #[.slice none 0 0] := by
    rw [← hW]
    have := Bk.new (Wz.alloc (.cells #[.int .i64 n] 3)) 53 #[.slice none 0 0]
    rw [World.size_alloc, hz0] at this
    exact this
  clear hb0 hx0 hz0
  clear hW
  have hS0 : Bx2 w.heap.size (w.heap.size + 1) a0 a1 a2 a3 a4 a5 b0 b1 b2 b3 b4 b5 W.drew := hx.drew
  generalize hS : Bx2 w.heap.size (w.heap.size + 1) a0 a1 a2 a3 a4 a5 b0 b1 b2 b3 b4 b5 = S at hS0
  have Hk := hide (And.intro hb (And.intro hx (And.intro hv hgn)))
  clear hx hb hv hgn
  refine wp_region_head 5 S (by rfl) (by kernel_rfl) ?_
  refine HT.take 0 (v := ?_) rfl (by kernel_rfl) (fun _ _ _ h => h) (Or.inl ⟨by rfl, ?_⟩) (by assumption) ?_
  rotate_left
  · intro W hSw; rw [← hS] at hSw; obtain ⟨⟨s0, s1, s2, s3, s4, s5⟩, ⟨t0, t1, t2, t3, t4, t5⟩⟩ := hSw; go_simp; with_reducible rfl
  simp only [Act.put, List.setIfInBounds_toArray, List.set_cons_zero, List.set_cons_succ]
  refine HT.take 2 (v := ?_) rfl (by kernel_rfl) (fun _ _ _ h => h) (Or.inl ⟨by rfl, ?_⟩) (by assumption) ?_
  rotate_left
  · intro W hSw; rw [← hS] at hSw; obtain ⟨⟨s0, s1, s2, s3, s4, s5⟩, ⟨t0, t1, t2, t3, t4, t5⟩⟩ := hSw; go_simp; with_reducible rfl
  simp only [Act.put, List.setIfInBounds_toArray, List.set_cons_zero, List.set_cons_succ]
  refine HT.take 4 (v := ?_) rfl (by kernel_rfl) (fun _ _ _ h => h) (Or.inl ⟨by rfl, ?_⟩) (by assumption) ?_
  rotate_left
  · intro W hSw; rw [← hS] at hSw; obtain ⟨⟨s0, s1, s2, s3, s4, s5⟩, ⟨t0, t1, t2, t3, t4, t5⟩⟩ := hSw; go_simp; with_reducible rfl
  simp only [Act.put, List.setIfInBounds_toArray, List.set_cons_zero, List.set_cons_succ]
  refine HT.one 1 rfl (by kernel_rfl) (by rfl) (fun K hK => ?_)
  go_simp
  refine (H1.out W.drew (below_drew Hk.out.1)).mono ?_
  rintro e w1 ⟨v1, rfl, hv1, hb1⟩
  have hbW : Below W.heap.size W w1 := below_drew' hb1
  go_simp
  refine hK.out _ _ (by rw [← hS]; exact Hk.out.2.1.below hbW (by omega) (by omega)) ?_
  clear hK
  refine HT.one 3 rfl (by kernel_rfl) (by rfl) (fun K hK => ?_)
  go_simp
  refine (H2.out w1 (Hk.out.1.trans (hbW.mono Hk.out.1.size))).mono ?_
  rintro e w2 ⟨v2, rfl, hv2, hb2⟩
  have hbW2 : Below W.heap.size W w2 := hbW.trans (hb2.mono hbW.size)
  go_simp
  refine hK.out _ _ (by rw [← hS]; exact Hk.out.2.1.below hbW2 (by omega) (by omega)) ?_
  refine HT.done (by kernel_rfl) ?_
  simp only [List.drop_succ_cons, List.drop_zero]
  have hvv := Hk.out.2.2.1.below hbW2 Hk.out.2.2.1.lt
  have hvn := Hk.out.2.2.2.below hbW2 Hk.out.2.2.2.lt
  obtain ⟨ra, va, rfl, ha⟩ := hv1
  obtain ⟨rb, vb, rfl, hb⟩ := hv2
  have s1 := hbW.size
  have s2 := hb2.size
  have s3 : W.heap.size = W.drew.heap.size := rfl
  have ha2 : MapAt (fun b => W.heap.size ≤ b ∧ b < w2.heap.size) w2 ra l1 va := (ha.keeps (Keeps.below hb2 fun b hb => hb.2)).mono fun b hb => ⟨hb.1, by have := hb.2; omega⟩
  have hb3 : MapAt (fun b => W.heap.size ≤ b ∧ b < w2.heap.size) w2 rb l2 vb := hb.mono fun b hb => ⟨by have := hb.1; omega, hb.2⟩
  have hfin := mapZip_calls (fun b hb => ⟨hb.2, by have := hb.1; omega⟩) (fun b hb => by subst hb; omega) (fun args W => by kernel_rfl) ha2 hb3 (zipStep_first hvv hvn (by omega) Hno.out.1 Hno.out.2 Hsm.out)
  have Hfin := hide hfin
  have Hb2 := hide (Hk.out.1.trans (hbW2.mono Hk.out.1.size))
  clear hK hS0 hS ha hb ha2 hb3 hb1 hb2 hbW hbW2 hfin hvv hvn H1 H2
  go_wp2_with fail
  refine Hfin.out.mono ?_
  have hb2 := Hb2.out
  rintro e w3 ⟨(⟨rfl, Bz, hz, _, hlt⟩ | ⟨rfl, Bz, i, hz, hin⟩), hbz⟩
  · have hgz := zip_gives_i Hb2.out (by omega) hz hbz
    have e : (bothK l1 l2).take (bothK l1 l2).length = (bothK l1 l2).take n.toNat := by rw [List.take_length, List.take_of_length_le (by omega)]
    rw [e, Hkk.out] at hgz
    obtain ⟨A, c, us, h1, h2⟩ := hgz
    have q0 := h1.cell 0
    simp only [List.getElem?_toArray, List.getElem?_cons_zero] at q0
    have H2 := hide h2
    clear hz hbz h1 h2 hlt e hb2
    go_wp2
    go_ret
    exact ⟨A, c, us, rfl, H2.out⟩
  · have hgz := zip_gives_i Hb2.out (by omega) hz hbz
    have e : i = n.toNat := by omega
    rw [e, Hkk.out] at hgz
    obtain ⟨A, c, us, h1, h2⟩ := hgz
    have q0 := h1.cell 0
    simp only [List.getElem?_toArray, List.getElem?_cons_zero] at q0
    have H2 := hide h2
    clear hz hbz h1 h2 hin e hb2
    go_wp2
    go_ret
    exact ⟨A, c, us, rfl, H2.out⟩

end Go.Proofs.Ytekaainjpddklaa
