/-
  impl.ZipMaps: the keys of two maps in order, each with what lies under it in either.
-/
import Derived.Test.YtekaainjpddklaaCells
import Derived.Test.YtekaainjpddklaaMapping
set_option linter.unusedVariables false
set_option linter.unusedSimpArgs false
namespace Go.Proofs.Ytekaainjpddklaa
open Go.RowKit
attribute [local go_sem] run_store_float

/-- a row of one struct, or nil -/
def OptRow (F : Nat → Prop) (w : World) (o : Option T) (v : Value) : Prop := match o with
  | none => v = .slice none 0 0
  | some t => ∃ A c cs, v = .slice A 1 c ∧ 1 ≤ c ∧ c ≤ maxLen ∧ Row F w 6 A 1 cs ∧ RVAt F w t.toRV cs
theorem OptRow.keeps {F : Nat → Prop} {w w' : World} {o : Option T} {v : Value} (h : OptRow F w o v) (k : Keeps F w w') : OptRow F w' o v := by
  cases o with
  | none => exact h
  | some t =>
    obtain ⟨A, c, cs, h1, h2, h3, h4, h5⟩ := h
    exact ⟨A, c, cs, h1, h2, h3, h4.keeps k, h5.keeps k⟩
theorem OptRow.mono {F G : Nat → Prop} {w : World} {o : Option T} {v : Value} (h : OptRow F w o v) (k : ∀ b, F b → G b) : OptRow G w o v := by
  cases o with
  | none => exact h
  | some t =>
    obtain ⟨A, c, cs, h1, h2, h3, h4, h5⟩ := h
    exact ⟨A, c, cs, h1, h2, h3, h4.mono k, h5.mono k⟩

/-- the struct of a key with what lies under it in two maps -/
def ZAt (F : Nat → Prop) (w : World) (l1 l2 : List (ByteArray × T)) (k : ByteArray) (cs : List Value) : Prop := ∃ va vb, cs = [.string k, va, vb] ∧ OptRow F w (getT l1 k) va ∧ OptRow F w (getT l2 k) vb
theorem ZAt.keeps {F : Nat → Prop} {w w' : World} {l1 l2 : List (ByteArray × T)} {k : ByteArray} {cs : List Value} (h : ZAt F w l1 l2 k cs) (hk : Keeps F w w') : ZAt F w' l1 l2 k cs := by
  obtain ⟨va, vb, e, h1, h2⟩ := h
  exact ⟨va, vb, e, h1.keeps hk, h2.keeps hk⟩
theorem ZAt.mono {F G : Nat → Prop} {w : World} {l1 l2 : List (ByteArray × T)} {k : ByteArray} {cs : List Value} (h : ZAt F w l1 l2 k cs) (hk : ∀ b, F b → G b) : ZAt G w l1 l2 k cs := by
  obtain ⟨va, vb, e, h1, h2⟩ := h
  exact ⟨va, vb, e, h1.mono hk, h2.mono hk⟩

theorem zipped_info : (Try.prog.info? 57).map (fun i => (i.zero, i.size, i.bytes)) = some (some (.agg #[.string ⟨#[]⟩, .slice none 0 0, .slice none 0 0]), 3, 64) := by kernel_rfl

/-- what is known between two keys: the first i have been listed -/
def ZJ (w : World) (gv : Nat) (l1 l2 : List (ByteArray × T)) (B i : Nat) (W : World) : Prop :=
  ∃ (A : Option Addr) (c : Nat) (us : List Value), Bk W gv 53 #[.slice A i c] ∧ W.ownsRow B 57 3 (.slice A i c) i us ∧ Cells 3 (ZAt (FrX B W (.slice A i c)) W l1 l2) ((bothK l1 l2).take i) us ∧ i ≤ (bothK l1 l2).length ∧ w.heap.size ≤ B

theorem ZJ.keep {w : World} {gv : Nat} {l1 l2 : List (ByteArray × T)} {B i : Nat} {W W' : World} (h : ZJ w gv l1 l2 B i W) (hb : Below W.heap.size W W') : ZJ w gv l1 l2 B i W' := by
  obtain ⟨A, c, us, h1, h2, h3, h4⟩ := h
  refine ⟨A, c, us, h1.below hb h1.lt, ownsRow_below h2 hb (Nat.le_refl _), h3.mono fun a cs hz => (hz.keeps (Keeps.below hb fun b h => h.2.1)).mono fun b h => ⟨h.1, Nat.lt_of_lt_of_le h.2.1 hb.size, h.2.2⟩, h4⟩

/-- one key more -/
theorem zj_next {w W W5 w6 : World} {gv g : Nat} {l1 l2 : List (ByteArray × T)} {B i c : Nat} {A : Option Addr} {us : List Value} {k : ByteArray} {va vb out' : Value} {o2 : Obj} (hwB : w.heap.size ≤ B) (hgB : gv < B) (hB : B ≤ W.heap.size) (hg : W.heap.size ≤ g) (hk : (bothK l1 l2)[i]? = some k)
    (hgv : Bk W gv 53 #[.slice A i c]) (hown : W.ownsRow B 57 3 (.slice A i c) i us) (hus : Cells 3 (ZAt (FrX B W (.slice A i c)) W l1 l2) ((bothK l1 l2).take i) us)
    (hb5 : Below W.heap.size W W5) (hva : OptRow (Fr W.heap.size W5) W5 (getT l1 k) va) (hvb : OptRow (Fr W.heap.size W5) W5 (getT l2 k) vb)
    (hown2 : w6.ownsRow B 57 3 out' (i + 1) (us ++ [.string k, va, vb])) (hg2 : (W5.alloc o2).grownBy w6 (Value.slice A i c).ownBlock) (hat : out'.ownBlock = (Value.slice A i c).ownBlock ∨ out'.ownBlock = some (W5.alloc o2).heap.size) :
    ZJ w gv l1 l2 B (i + 1) (w6.setCell ⟨gv, 0, none⟩ out') ∧ ButS (fun b => b = gv ∨ B ≤ b) W (w6.setCell ⟨gv, 0, none⟩ out') := by
  have s1 := hb5.size
  have s2 := hg2.size
  simp only [World.size_alloc] at s2
  have hlt := hown.lt
  have hlt2 := hown2.lt
  have hne : ∀ b, b < B → some b ≠ (Value.slice A i c).ownBlock := fun b hb e => by have := (hlt b e.symm).1; omega
  have hil := (List.getElem?_eq_some_iff.1 hk).1
  have hkk : (bothK l1 l2)[i] = k := (List.getElem?_eq_some_iff.1 hk).2
  have hgv6 : Bk w6 gv 53 #[.slice A i c] := ((hgv.below hb5 hgv.lt).alloc _).grown hg2 (hne _ hgB)
  have hset := hgv6.set_ 0 out'
  simp at hset
  have hsz : (w6.setCell ⟨gv, 0, none⟩ out').heap.size = w6.heap.size := by simp
  have k2 : Keeps (FrX B W (.slice A i c)) W (w6.setCell ⟨gv, 0, none⟩ out') := by
    intro b hbb
    obtain ⟨q1, q2, q3⟩ := hbb
    rw [Below.heap_setCell _ _ _ _ (by show b ≠ gv; omega), hg2.block b (by simp only [World.size_alloc]; omega) q3, Below.heap_alloc _ _ _ (by omega), hb5.block b (by omega)]
  have g2 : ∀ b, FrX B W (.slice A i c) b → FrX B (w6.setCell ⟨gv, 0, none⟩ out') out' b := by
    rintro b ⟨q1, q2, q3⟩
    refine ⟨q1, by omega, ?_⟩
    rcases hat with e | e <;> rw [e]
    · exact q3
    · simp only [World.size_alloc, ne_eq, Option.some.injEq]; omega
  have k3 : Keeps (Fr W.heap.size W5) W5 (w6.setCell ⟨gv, 0, none⟩ out') := by
    rintro b ⟨q1, q2⟩
    rw [Below.heap_setCell _ _ _ _ (by show b ≠ gv; omega), hg2.block b (by simp only [World.size_alloc]; omega) (fun e => by have := (hlt b e.symm).2; omega), Below.heap_alloc _ _ _ q2]
  have g3 : ∀ b, Fr W.heap.size W5 b → FrX B (w6.setCell ⟨gv, 0, none⟩ out') out' b := by
    rintro b ⟨q1, q2⟩
    refine ⟨by omega, by omega, ?_⟩
    rcases hat with e | e <;> rw [e]
    · intro e'; have := (hlt b e'.symm).2; omega
    · simp only [World.size_alloc, ne_eq, Option.some.injEq]; omega
  obtain ⟨A', c', rfl, hc1, hc2⟩ := own_form hown2
  refine ⟨⟨A', c', _, hset, ownsRow_setCell_below hown2 (by show gv < B; omega) _, ?_, by omega, hwB⟩, ?_⟩
  · rw [List.take_succ_eq_append_getElem hil, hkk]
    exact (hus.mono fun a cs hz => (hz.keeps k2).mono g2).append (Cells.one ⟨va, vb, rfl, (hva.keeps k3).mono g3, (hvb.keeps k3).mono g3⟩ rfl)
  · refine ⟨by show w6.os = _; rw [hg2.os]; exact hb5.os, by show w6.tape = _; rw [hg2.tape]; exact hb5.tape, by show w6.output = _; rw [hg2.output]; exact hb5.output, by omega, fun b hb hn => ?_⟩
    rw [Below.heap_setCell _ _ _ _ (by show b ≠ gv; exact fun e => hn (.inl e)), hg2.block b (by simp only [World.size_alloc]; omega) (fun e => hn (.inr (hlt b e.symm).1)), Below.heap_alloc _ _ _ (by omega), hb5.block b hb]

/-- the row of one struct that a call of fromValue's answer is laid into -/
theorem OptRow.made {W w2 : World} {t : T} {cs : List Value} (hcc : RVAt (fun b => False ∨ Fr W.heap.size w2 b) w2 t.toRV cs) (hb : Below W.heap.size W w2) : OptRow (Fr W.heap.size (w2.alloc (.cells cs.toArray 26))) (w2.alloc (.cells cs.toArray 26)) (some t) (.slice (some ⟨w2.heap.size, 0, none⟩) 1 1) := by
  have hl := hcc.len
  refine ⟨_, 1, cs, rfl, Nat.le_refl _, by simp [maxLen], ⟨by simpa using hl, fun _ => ⟨w2.heap.size, 0, rfl, ⟨hb.size, by simp⟩, fun j u hu => ?_⟩⟩, (hcc.keeps (Keeps.alloc _ _ fun b h => h.elim (fun h => h.elim) (fun h => h.2))).mono fun b h => h.elim (fun h => h.elim) (fun h => ⟨h.1, by have := h.2; simp; omega⟩)⟩
  have := (Bk.new w2 26 cs.toArray).cell j
  rw [Nat.zero_add, this]
  simpa using hu

/-- the struct of a key, half made -/
structure ZMid (W : World) (k : ByteArray) (va vb : Value) (o1 o2 : Option T) (W' : World) : Prop where
  z : Bk W' W.heap.size 57 #[.string k, va, vb]
  below : Below W.heap.size W W'
  a : OptRow (Fr (W.heap.size + 1) W') W' o1 va
  b : OptRow (Fr (W.heap.size + 1) W') W' o2 vb
theorem ZMid.first (W : World) (k : ByteArray) : ZMid W k (.slice none 0 0) (.slice none 0 0) none none (W.alloc (.cells #[.string k, .slice none 0 0, .slice none 0 0] 57)) :=
  ⟨Bk.new W _ _, (Below.refl _ _).alloc (Nat.le_refl _) _, rfl, rfl⟩
theorem ZMid.call {W W' w1 : World} {k : ByteArray} {va vb : Value} {o1 o2 : Option T} (h : ZMid W k va vb o1 o2 W') (hb : Below W'.heap.size W' w1) : ZMid W k va vb o1 o2 w1 :=
  ⟨h.z.below hb h.z.lt, h.below.trans (hb.mono h.below.size), (h.a.keeps (Keeps.below hb fun b h => h.2)).mono fun b hh => ⟨hh.1, Nat.lt_of_lt_of_le hh.2 hb.size⟩, (h.b.keeps (Keeps.below hb fun b h => h.2)).mono fun b hh => ⟨hh.1, Nat.lt_of_lt_of_le hh.2 hb.size⟩⟩
theorem ZMid.setA {W W' w1 : World} {k : ByteArray} {va vb : Value} {o1 o2 : Option T} {t : T} {cs : List Value} (h : ZMid W k va vb o1 o2 W') (hb : Below W'.heap.size W' w1) (hcc : RVAt (fun b => False ∨ Fr W'.heap.size w1 b) w1 t.toRV cs) :
    ZMid W k (.slice (some ⟨w1.heap.size, 0, none⟩) 1 1) vb (some t) o2 ((w1.setCell ⟨W.heap.size, 1, none⟩ (.slice (some ⟨w1.heap.size, 0, none⟩) 1 1)).alloc (.cells cs.toArray 26)) := by
  rw [← World.setCell_alloc_past _ _ _ _ (h.call hb).z.lt]
  have h1 := h.call hb
  have hlt := h1.z.lt
  have hm := OptRow.made hcc hb
  have hz := (h1.z.alloc (.cells cs.toArray 26)).set_ 1 (.slice (some ⟨w1.heap.size, 0, none⟩) 1 1)
  simp at hz
  have hW := h.z.lt
  have kk : ∀ b, Fr (W.heap.size + 1) (w1.alloc (.cells cs.toArray 26)) b → b ≠ W.heap.size := fun b hb => by have := hb.1; omega
  have h2 := h1.call (Below.refl _ _ |>.alloc (Nat.le_refl _) (.cells cs.toArray 26))
  exact ⟨hz, h2.below.setCell (by show W.heap.size ≤ W.heap.size; exact Nat.le_refl _) _, ((hm.mono fun b hb => ⟨by have := hb.1; omega, hb.2⟩).keeps (Keeps.setCell _ _ _ kk)).mono fun b hb => ⟨hb.1, by simpa using hb.2⟩, (h2.b.keeps (Keeps.setCell _ _ _ kk)).mono fun b hb => ⟨hb.1, by simpa using hb.2⟩⟩
theorem ZMid.setB {W W' w1 : World} {k : ByteArray} {va vb : Value} {o1 o2 : Option T} {t : T} {cs : List Value} (h : ZMid W k va vb o1 o2 W') (hb : Below W'.heap.size W' w1) (hcc : RVAt (fun b => False ∨ Fr W'.heap.size w1 b) w1 t.toRV cs) :
    ZMid W k va (.slice (some ⟨w1.heap.size, 0, none⟩) 1 1) o1 (some t) ((w1.setCell ⟨W.heap.size, 2, none⟩ (.slice (some ⟨w1.heap.size, 0, none⟩) 1 1)).alloc (.cells cs.toArray 26)) := by
  rw [← World.setCell_alloc_past _ _ _ _ (h.call hb).z.lt]
  have h1 := h.call hb
  have hlt := h1.z.lt
  have hm := OptRow.made hcc hb
  have hz := (h1.z.alloc (.cells cs.toArray 26)).set_ 2 (.slice (some ⟨w1.heap.size, 0, none⟩) 1 1)
  simp at hz
  have hW := h.z.lt
  have kk : ∀ b, Fr (W.heap.size + 1) (w1.alloc (.cells cs.toArray 26)) b → b ≠ W.heap.size := fun b hb => by have := hb.1; omega
  have h2 := h1.call (Below.refl _ _ |>.alloc (Nat.le_refl _) (.cells cs.toArray 26))
  exact ⟨hz, h2.below.setCell (by show W.heap.size ≤ W.heap.size; exact Nat.le_refl _) _, (h2.a.keeps (Keeps.setCell _ _ _ kk)).mono fun b hb => ⟨hb.1, by simpa using hb.2⟩, ((hm.mono fun b hb => ⟨by have := hb.1; omega, hb.2⟩).keeps (Keeps.setCell _ _ _ kk)).mono fun b hb => ⟨hb.1, by simpa using hb.2⟩⟩

set_option maxRecDepth 100000 in
set_option maxHeartbeats 2000000 in
theorem zipClosure_calls {w : World} {gv : Nat} {l1 l2 : List (ByteArray × T)} (hgvw : gv < w.heap.size) (hsm : (bothK l1 l2).length ≤ 8589934592) (B i : Nat) (k : ByteArray) (W : World) (lv rv : Value) (hk : (bothK l1 l2)[i]? = some k) (hj : ZJ w gv l1 l2 B i W) (hwB : w.heap.size ≤ B) (hB : B ≤ W.heap.size) (hv1 : ItemV W (getT l1 k) lv) (hv2 : ItemV W (getT l2 k) rv) :
    Calls Try.prog 96 #[.string k, lv, rv, .pointer (some ⟨gv, 0, none⟩)] W fun e W' => ((e = .returned (.bool true) ∧ ZJ w gv l1 l2 B (i + 1) W') ∨ (e = .returned (.bool false) ∧ False)) ∧ ButS (fun b => b = gv ∨ B ≤ b) W W' := by
  obtain ⟨i57, hi57, hz57, hs57, hb57⟩ := info_parts zipped_info
  obtain ⟨A, c, us, hgv, hown, hus, hil, _⟩ := hj
  have hil' := (List.getElem?_eq_some_iff.1 hk).1
  have Hend := fun g W5 w6 va vb out' o2 hg => hide (zj_next (w := w) (W5 := W5) (w6 := w6) (g := g) (va := va) (vb := vb) (out' := out') (o2 := o2) hwB (Nat.lt_of_lt_of_le hgvw hwB) hB hg hk hgv hown hus)
  have Hgv := hide (And.intro hgv hown)
  have Hv1 := hide hv1
  have hv2w := fun W' (hb : Below W.heap.size W W') => hv2.below hb
  have Hv2 := hide hv2w
  have hf1 := hv1.form
  have hf2 := hv2.form
  have hgvl : gv < W.heap.size := hgv.lt
  clear hgv hown hus hv1 hv2 hk hv2w
  cases hg1 : getT l1 k
  case' none =>
    have e1 : lv = .nilIface := by have := Hv1.out; rw [hg1] at this; exact this
    subst e1
    rw [hg1] at Hend
    clear hg1 hf1 Hv1
    go_enter Try.func96, Try.ntmps96
    go_upto_region 4 with fail
    have st := ZMid.first W k
    generalize World.alloc _ _ = W5 at st ⊢
    obtain ⟨o1, ho1⟩ : ∃ o, o = (none : Option T) := ⟨_, rfl⟩
    rw [← ho1] at Hend
    obtain ⟨a1, n1, c1, hva⟩ : ∃ (a : Option Addr) (n c : Nat), Value.slice none 0 0 = .slice a n c := ⟨_, _, _, rfl⟩
    replace st : ZMid W k (.slice a1 n1 c1) (.slice none 0 0) o1 none W5 := by rw [← hva, ho1]; exact st
    have h0 := hide (And.intro ho1 hva)
    clear ho1 hva
  case' some t =>
    have hval : ValAt (Old W) W t lv := by have := Hv1.out; rw [hg1] at this; exact this
    rw [hg1] at Hend
    have Hval := hide hval
    obtain ⟨p, rfl⟩ : ∃ p, lv = .iface 182 (.pointer (some p)) := by
      obtain ⟨g, u, e, _⟩ := hval
      exact ⟨_, e⟩
    clear hg1 hf1 Hv1 hval
    go_enter Try.func96, Try.ntmps96
    go_wp2_with fail
    have st := ZMid.first W k
    have hb0 := st.below
    generalize World.alloc _ _ = W0 at st hb0 ⊢
    refine (fromValue_calls (Hval.out.at_ hb0)).mono ?_
    rintro e w1 ⟨cs, rfl, hcc, hb1⟩
    obtain ⟨d0, d1, d2, d3, KA, kl, kc, LA, ll, lc, rfl⟩ := hcc.form
    have hz1 := (st.call hb1).z
    have st := st.setA hb1 hcc
    have p1 := hz1.cell 1
    have p6 : ∀ i, w1.frozen? ⟨W.heap.size, i, none⟩ = false := fun i => hz1.free i
    have hzl : W.heap.size < w1.heap.size := hz1.lt
    simp at p1
    have St := hide st
    clear hcc hz1 hb1 hb0 st
    go_upto_region 4 with fail
    have st := St.out
    generalize World.alloc _ _ = W5 at st ⊢
    obtain ⟨o1, ho1⟩ : ∃ o, o = some t := ⟨_, rfl⟩
    obtain ⟨a1, n1, c1, hva⟩ : ∃ (a : Option Addr) (n c : Nat), Value.slice (some ⟨w1.heap.size, 0, none⟩) 1 1 = .slice a n c := ⟨_, _, _, rfl⟩
    rw [← ho1] at Hend
    replace st : ZMid W k (.slice a1 n1 c1) (.slice none 0 0) o1 none W5 := by rw [← hva, ho1]; exact st
    have h0 := hide (And.intro ho1 hva)
    clear ho1 hva St p1 p6 hzl
  all_goals
    have Hv3 := hide (Hv2.out W5 st.below)
    cases hg2 : getT l2 k
    case' none =>
      have e2 : rv = .nilIface := by have := Hv3.out; rw [hg2] at this; exact this
      subst e2
      rw [hg2] at Hend
      clear hg2 hf2 Hv2 Hv3
      have St := hide st
      clear st
      go_upto_region 6 with fail
      have st := St.out
      obtain ⟨o2, ho2⟩ : ∃ o, o = (none : Option T) := ⟨_, rfl⟩
      obtain ⟨a2, n2, c2, hvb⟩ : ∃ (a : Option Addr) (n c : Nat), Value.slice none 0 0 = .slice a n c := ⟨_, _, _, rfl⟩
      rw [← ho2] at Hend
      replace st : ZMid W k (.slice a1 n1 c1) (.slice a2 n2 c2) o1 o2 W5 := by rw [← hvb, ho2]; exact st
      have h0' := hide (And.intro ho2 hvb)
      clear ho2 hvb St
    case' some t2 =>
      have hval : ValAt (Old W5) W5 t2 rv := by have := Hv3.out; rw [hg2] at this; exact this
      rw [hg2] at Hend
      have Hval := hide hval
      obtain ⟨p, rfl⟩ : ∃ p, rv = .iface 182 (.pointer (some p)) := by
        obtain ⟨g, u, e, _⟩ := hval
        exact ⟨_, e⟩
      clear hg2 hf2 Hv2 hval Hv3
      have St := hide st
      clear st
      go_wp2_with fail
      refine (fromValue_calls Hval.out).mono ?_
      rintro e w2 ⟨cs2, rfl, hcc, hb1⟩
      obtain ⟨d0, d1, d2, d3, KA, kl, kc, LA, ll, lc, rfl⟩ := hcc.form
      have hz1 := (St.out.call hb1).z
      have St2 := hide (St.out.setB hb1 hcc)
      have p1 := hz1.cell 2
      have p6 : ∀ i, w2.frozen? ⟨W.heap.size, i, none⟩ = false := fun i => hz1.free i
      have hzl : W.heap.size < w2.heap.size := hz1.lt
      simp at p1
      clear hcc hz1 hb1
      go_upto_region 6 with fail
      have st := St2.out
      generalize World.alloc _ _ = W6 at st ⊢
      clear St
      obtain ⟨o2, ho2⟩ : ∃ o, o = some t2 := ⟨_, rfl⟩
      obtain ⟨a2, n2, c2, hvb⟩ : ∃ (a : Option Addr) (n c : Nat), Value.slice (some ⟨w2.heap.size, 0, none⟩) 1 1 = .slice a n c := ⟨_, _, _, rfl⟩
      rw [← ho2] at Hend
      replace st : ZMid W k (.slice a1 n1 c1) (.slice a2 n2 c2) o1 o2 W6 := by rw [← hvb, ho2]; exact st
      have h0' := hide (And.intro ho2 hvb)
      clear ho2 hvb St2 p1 p6 hzl
  all_goals
    have hgv5 := (Hgv.out.1.below st.below hgvl)
    have q0 := hgv5.cell 0
    have q6 : ∀ j, World.frozen? _ ⟨gv, j, none⟩ = false := fun j => hgv5.free j
    have z0 := st.z.cell 0
    have z1 := st.z.cell 1
    have z2 := st.z.cell 2
    simp at q0 z0 z1 z2
    have hBw := st.below.size
    have hown5 := ownsRow_below Hgv.out.2 st.below (Nat.le_refl _)
    have Hgv5 := hide (And.intro hgv5 hown5)
    have St := hide st
    have h16 : (i + 1) * 64 ≤ 140737488355328 := by omega
    have h17 : i + 1 ≤ 8589934592 := by omega
    clear hgv5 hown5 st
    go_wp2_with (at_builtin; refine wpList_append_own_at _ rfl (.tmp 23) (.tmp 25) 53 rfl B 57 i57 _ 3 64 Try.underlying53 hi57 hz57 hs57 hb57 rfl (by omega) _ i us rfl (Hgv5.out.2.alloc _) ⟨World.heap _ |>.size, 0, none⟩ 1 1 [.string k, .slice a1 n1 c1, .slice a2 n2 c2] rfl rfl (cells_at _ [.string k, .slice a1 n1 c1, .slice a2 n2 c2] _ _ rfl) ?c1 ?c2 ?c3 ?c4 ?_)
    case c1 => simp [Value.oneCell']
    case c2 => unfold maxLen; omega
    case c3 => exact h16
    case c4 => simp only [World.size_alloc]; omega
    intro out' w7 hown7 hg7 _ hat7
    have Hfin := hide ((Hend W.heap.size _ w7 _ _ out' _ (Nat.le_refl _)).out St.out.below (St.out.a.mono fun b hb => ⟨by have := hb.1; omega, hb.2⟩) (St.out.b.mono fun b hb => ⟨by have := hb.1; omega, hb.2⟩) hown7 hg7 (by rw [World.size_alloc]; exact hat7))
    have hgv7 : Bk w7 gv 53 #[.slice A i c] := (Hgv5.out.1.alloc _).grown hg7 (fun e => by have := (Hgv5.out.2.lt _ e.symm).1; omega)
    have p0 := hgv7.cell 0
    have p6 : ∀ j, w7.frozen? ⟨gv, j, none⟩ = false := fun j => hgv7.free j
    simp at p0
    obtain ⟨oA, oc, rfl, _, _⟩ := own_form hown7
    clear Hend hown7 hg7 hat7 hgv7 Hgv5 St q0 q6 z0 z1 z2
    go_wp2
    go_ret
    exact ⟨.inl ⟨rfl, Hfin.out.1⟩, Hfin.out.2⟩


theorem zipStep_maps {w : World} {gv : Nat} {l1 l2 : List (ByteArray × T)} (hg : Bk w gv 53 #[.slice none 0 0]) (hsm : (bothK l1 l2).length ≤ 8589934592) :
    ZipStep 96 #[.pointer (some ⟨gv, 0, none⟩)] l1 l2 w (fun b => b = gv) (ZJ w gv l1 l2) (fun _ => False) where
  start W hb := ⟨none, 0, [], hg.below hb hg.lt, World.ownsRow_nil _ _ _ _, Cells.nil_, Nat.zero_le _, hb.size⟩
  keep B i W W' h hb := h.keep hb
  step B i k W lv rv hk hj hwB hB h1 h2 := zipClosure_calls hg.lt hsm B i k W lv rv hk hj hwB hB h1 h2

section
variable {l1 l2 : List (ByteArray × T)} {r1 r2 : Nat} {val1 val2 : ByteArray → Value} {F : Nat → Prop} {w : World} {f : FuncId} {cap : Array Value} {S : Nat → Prop} {J : Nat → Nat → World → Prop} {Jf : World → Prop}
set_option maxRecDepth 100000 in
theorem mapZip_calls (hF : ∀ b, F b → b < w.heap.size ∧ ¬ S b) (hS : ∀ b, S b → b < w.heap.size) (hcf : ∀ (args : Array Value) (W : World), (callFunc f args).run Try.prog W = .ok (.enter f args) W)
    (h1 : MapAt F w r1 l1 val1) (h2 : MapAt F w r2 l2 val2) (hs : ZipStep f cap l1 l2 w S J Jf) :
    Calls Try.prog 73 #[.iface 281 (.map (some r1)), .iface 281 (.map (some r2)), .int .i64 1, .func (.func f) #[] cap] w (ZipPost l1 l2 w S J Jf) := by
  have Hz : ∀ W pa, Below w.heap.size w W → Calls Try.prog 108 #[.iface 178 (.pointer (some pa)), .iface 281 (.map (some r1)), .iface 281 (.map (some r2)), .int .i64 1, .func (.func f) #[] cap] W (ZipPost l1 l2 w S J Jf) := by
    intro W pa hb
    refine (mapZipUsing_calls (fun b hb' => ⟨Nat.lt_of_lt_of_le (hF b hb').1 hb.size, (hF b hb').2⟩) (fun b hb' => Nat.lt_of_lt_of_le (hS b hb') hb.size) hcf (h1.below (fun b hb' => (hF b hb').1) hb) (h2.below (fun b hb' => (hF b hb').1) hb) pa (hs.alloc hb)).mono ?_
    exact fun e w' h => h.of_below hb hS
  have Hz := hide Hz
  clear hs h1 h2 hF hS
  go_enter Try.func73, Try.ntmps73
  go_wp2_with fail
  refine (Hz.out _ _ ((Below.refl _ _).alloc (Nat.le_refl _) _)).mono ?_
  rintro e w' ⟨(⟨rfl, h⟩ | ⟨rfl, h⟩), hb⟩
  · have H := hide (show ZipPost l1 l2 w S J Jf (.returned (.bool true)) w' from ⟨.inl ⟨rfl, h⟩, hb⟩)
    clear h hb
    go_wp2
    go_ret
    exact H.out
  · have H := hide (show ZipPost l1 l2 w S J Jf (.returned (.bool false)) w' from ⟨.inr ⟨rfl, h⟩, hb⟩)
    clear h hb
    go_wp2
    go_ret
    exact H.out
end

/-- a row of what lies under each key of two maps -/
def GivesZip (ks : List ByteArray) (l1 l2 : List (ByteArray × T)) (w : World) (e : Ending) (w' : World) : Prop :=
  ∃ A c us, e = .returned (.slice A ks.length c) ∧ ks.length ≤ c ∧ c ≤ maxLen ∧ Row (Fr w.heap.size w') w' 3 A ks.length us ∧ Cells 3 (ZAt (Fr w.heap.size w') w' l1 l2) ks us ∧ Below w.heap.size w w'

theorem zip_gives {w W w' : World} {gv : Nat} {l1 l2 : List (ByteArray × T)} {B : Nat} (hw : Below w.heap.size w W) (hgv : w.heap.size ≤ gv) (h : ZJ W gv l1 l2 B (bothK l1 l2).length w') (hb : ButS (fun b => b = gv) W w') :
    ∃ A c us, Bk w' gv 53 #[.slice A (bothK l1 l2).length c] ∧ (bothK l1 l2).length ≤ c ∧ c ≤ maxLen ∧ Row (Fr w.heap.size w') w' 3 A (bothK l1 l2).length us ∧ Cells 3 (ZAt (Fr w.heap.size w') w' l1 l2) (bothK l1 l2) us ∧ Below w.heap.size w w' := by
  obtain ⟨A, c, us, h1, h2, h3, _, h5⟩ := h
  have hs := hw.size
  have hlt := h2.lt
  obtain ⟨_, _, e, h6, h7⟩ := own_form h2
  cases e
  rw [List.take_length] at h3
  exact ⟨A, c, us, h1, h6, h7, Row.of_own h2 fun g hg => ⟨by have := (hlt g hg).1; omega, (hlt g hg).2⟩, h3.mono fun a cs hz => hz.mono fun b hb => ⟨by have := hb.1; omega, hb.2.1⟩,
    ⟨hb.os.trans hw.os, hb.tape.trans hw.tape, hb.output.trans hw.output, Nat.le_trans hw.size hb.size, fun b hbb => (hb.block b (by omega) (by omega)).trans (hw.block b hbb)⟩⟩

set_option maxRecDepth 100000 in
set_option maxHeartbeats 2000000 in
theorem zipMaps_calls (r1 r2 : RV) (w : World) (cs1 cs2 : List Value) (h1 : RVAt (Old w) w r1 cs1) (h2 : RVAt (Old w) w r2 cs2) (hsm : (bothK r1.flds r2.flds).length ≤ 8589934592) :
    Calls Try.prog 56 #[.agg cs1.toArray, .agg cs2.toArray] w (GivesZip (bothK r1.flds r2.flds) r1.flds r2.flds w) := by
  have H1 := hide fun (W : World) (hb : Below w.heap.size w W) => toMapping_calls r1 W _ (h1.at_ hb)
  have H2 := hide fun (W : World) (hb : Below w.heap.size w W) => toMapping_calls r2 W _ (h2.at_ hb)
  generalize r1.flds = l1 at *
  generalize r2.flds = l2 at *
  obtain ⟨a0, a1, a2, a3, a4, a5, rfl⟩ := h1.six
  obtain ⟨b0, b1, b2, b3, b4, b5, rfl⟩ := h2.six
  have Hsm := hide hsm
  clear h1 h2 hsm
  go_enter Try.func56, Try.ntmps56
  go_wp2_with fail
  generalize hW : World.alloc _ _ = W
  have hb : Below w.heap.size w W := by rw [← hW]; exact (below_two _ _ _).alloc (by simp; omega) _
  have hsz : w.heap.size + 2 < W.heap.size := by rw [← hW]; simp
  have hx : Bx2 w.heap.size (w.heap.size + 1) a0 a1 a2 a3 a4 a5 b0 b1 b2 b3 b4 b5 W := by rw [← hW]; exact (Bx2.made _ _ _ _ _ _ _ _ _ _ _ _ _ _ _).below ((Below.refl _ _).alloc (Nat.le_refl _) _) (by simp; omega) (by simp)
  have hv : Bk W (w.heap.size + 2) 53 #[.slice none 0 0] := by
    rw [← hW]
    have := Bk.new ((w.alloc (.cells #[a0, a1, a2, a3, a4, a5] 26)).alloc (.cells #[b0, b1, b2, b3, b4, b5] 26)) 53 #[.slice none 0 0]
    simpa only [World.size_alloc] using this
  clear hW
  have hS0 : Bx2 w.heap.size (w.heap.size + 1) a0 a1 a2 a3 a4 a5 b0 b1 b2 b3 b4 b5 W.drew := hx.drew
  generalize hS : Bx2 w.heap.size (w.heap.size + 1) a0 a1 a2 a3 a4 a5 b0 b1 b2 b3 b4 b5 = S at hS0
  have Hk := hide (And.intro hb (And.intro hx hv))
  clear hx hb hv
  refine wp_region_head 5 S (by rfl) (by kernel_rfl) ?_
  refine HT.take 0 (v := ?_) rfl (by kernel_rfl) (fun _ _ _ h => h) (Or.inl ⟨by rfl, ?_⟩) (by assumption) ?_
  rotate_left
  · intro W hSw; rw [← hS] at hSw; obtain ⟨⟨s0, s1, s2, s3, s4, s5⟩, ⟨t0, t1, t2, t3, t4, t5⟩⟩ := hSw; go_simp; with_reducible rfl
  simp only [Act.put, List.setIfInBounds_toArray, List.set_cons_zero, List.set_cons_succ]
  refine HT.take 2 (v := ?_) rfl (by kernel_rfl) (fun _ _ _ h => h) (Or.inl ⟨by rfl, ?_⟩) (by assumption) ?_
  rotate_left
  · intro W hSw; rw [← hS] at hSw; obtain ⟨⟨s0, s1, s2, s3, s4, s5⟩, ⟨t0, t1, t2, t3, t4, t5⟩⟩ := hSw; go_simp; with_reducible rfl
  simp only [Act.put, List.setIfInBounds_toArray, List.set_cons_zero, List.set_cons_succ]
  refine HT.take 4 (v := ?_) rfl (by kernel_rfl) (fun _ _ _ h => h) (Or.inl ⟨by rfl, ?_⟩) (by assumption) ?_
  rotate_left
  · intro W hSw; rw [← hS] at hSw; obtain ⟨⟨s0, s1, s2, s3, s4, s5⟩, ⟨t0, t1, t2, t3, t4, t5⟩⟩ := hSw; go_simp; with_reducible rfl
  simp only [Act.put, List.setIfInBounds_toArray, List.set_cons_zero, List.set_cons_succ]
  refine HT.one 1 rfl (by kernel_rfl) (by rfl) (fun K hK => ?_)
  go_simp
  refine (H1.out W.drew (below_drew Hk.out.1)).mono ?_
  rintro e w1 ⟨v1, rfl, hv1, hb1⟩
  have hbW : Below W.heap.size W w1 := below_drew' hb1
  go_simp
  refine hK.out _ _ (by rw [← hS]; exact Hk.out.2.1.below hbW (by omega) (by omega)) ?_
  clear hK
  refine HT.one 3 rfl (by kernel_rfl) (by rfl) (fun K hK => ?_)
  go_simp
  refine (H2.out w1 (Hk.out.1.trans (hbW.mono Hk.out.1.size))).mono ?_
  rintro e w2 ⟨v2, rfl, hv2, hb2⟩
  have hbW2 : Below W.heap.size W w2 := hbW.trans (hb2.mono hbW.size)
  go_simp
  refine hK.out _ _ (by rw [← hS]; exact Hk.out.2.1.below hbW2 (by omega) (by omega)) ?_
  refine HT.done (by kernel_rfl) ?_
  simp only [List.drop_succ_cons, List.drop_zero]
  have hvv := Hk.out.2.2.below hbW2 Hk.out.2.2.lt
  obtain ⟨ra, va, rfl, ha⟩ := hv1
  obtain ⟨rb, vb, rfl, hb⟩ := hv2
  have s1 := hbW.size
  have s2 := hb2.size
  have s3 : W.heap.size = W.drew.heap.size := rfl
  have ha2 : MapAt (fun b => W.heap.size ≤ b ∧ b < w2.heap.size) w2 ra l1 va := (ha.keeps (Keeps.below hb2 fun b hb => hb.2)).mono fun b hb => ⟨hb.1, by have := hb.2; omega⟩
  have hb3 : MapAt (fun b => W.heap.size ≤ b ∧ b < w2.heap.size) w2 rb l2 vb := hb.mono fun b hb => ⟨by have := hb.1; omega, hb.2⟩
  have hfin := mapZip_calls (fun b hb => ⟨hb.2, by have := hb.1; omega⟩) (fun b hb => by subst hb; omega) (fun args W => by kernel_rfl) ha2 hb3 (zipStep_maps hvv Hsm.out)
  have Hfin := hide hfin
  have Hb2 := hide (Hk.out.1.trans (hbW2.mono Hk.out.1.size))
  clear hK hS0 hS ha hb ha2 hb3 hb1 hb2 hbW hbW2 hfin hvv H1 H2
  go_wp2_with fail
  refine Hfin.out.mono ?_
  rintro e w3 ⟨(⟨rfl, Bz, hz⟩ | ⟨_, hz⟩), hbz⟩
  · obtain ⟨A, c, us, h1, h2⟩ := zip_gives Hb2.out (by omega) hz hbz
    have q0 := h1.cell 0
    simp at q0
    have H2 := hide h2
    clear hz hbz h1 h2
    go_wp2
    go_ret
    exact ⟨A, c, us, rfl, H2.out⟩
  · exact hz.elim

end Go.Proofs.Ytekaainjpddklaa
