/-
  Several texts in one: FromRef, FromField, FromMap, FromAtom, SchFind, FindNamed.
-/
import Derived.Test.YtekaainjpddklaaSchTo
set_option linter.unusedVariables false
set_option linter.unusedSimpArgs false
/-!
  impl.fromRef, of what fromAtom makes.
-/

namespace Go.Proofs.Ytekaainjpddklaa
open Go.RowKit
attribute [local go_sem] run_store_float

def FromAtomOK (p : P) : Prop := ∀ (w : World) (cs : List Value), PAt (Old w) w .atom p cs → Calls Try.prog 65 #[.agg cs.toArray] w (GivesS .atom p w)
def FromRefOK (p : P) : Prop := ∀ (w : World) (cs : List Value), PAt (Old w) w .ref p cs → Calls Try.prog 101 #[.agg cs.toArray] w (GivesS .ref p w)

theorem SAt.drew {F : Nat → Prop} {w : World} {k : Ytekaainjpddklaa.K} {s : Ytekaainjpddklaa.S} {cs : List Value} (h : SAt F w k s cs) : SAt F w.drew k s cs := h.keeps (w' := w.drew) fun _ _ => rfl
/-- a name that is set or not -/
def Nm (o : Option ByteArray) (b : Bool) (s : ByteArray) : Prop := (o = none ∧ b = false ∨ o = some s ∧ b = true) ∧ s.size ≤ R47
theorem ref_plain {named rel : Option ByteArray} {inl : P} {b : Bool} {nm r : ByteArray} {a : Ytekaainjpddklaa.S} (h1 : Nm named b nm) (h2 : nz r = rel) (h3 : a.plain = inl) (h4 : named ≠ none → inl = P.empty) : (Ytekaainjpddklaa.S.ref b nm a r).plain = .ref named inl rel := by
  rw [Ytekaainjpddklaa.S.plain, h2, h3]
  rcases h1.1 with ⟨rfl, rfl⟩ | ⟨rfl, rfl⟩
  · rw [if_neg (by decide)]
  · rw [if_pos rfl, h4 (by simp)]

set_option maxRecDepth 100000 in
set_option maxHeartbeats 4000000 in
theorem fromRef_of {named rel : Option ByteArray} {inl : P} (ha : FromAtomOK inl) : FromRefOK (.ref named inl rel) := by
  intro w cs h
  cases h with
  | @ref _ _ _ v0 c0 c1 c2 v1 hrel hn hcan hin hr =>
  have HA := hide fun (W : World) (hb : Below w.heap.size w W) => ha W _ (hin.at_ hb)
  obtain ⟨p1, p2, p3, e⟩ := hin.atom_form
  simp only [List.cons.injEq, and_true] at e
  obtain ⟨rfl, rfl, rfl⟩ := e
  obtain ⟨p0, rfl⟩ := hn.form
  obtain ⟨p4, rfl⟩ := hr.form
  have Hn := hide (And.intro hn (And.intro hr (And.intro hcan hrel)))
  clear hin hn hr hcan hrel ha
  go_enter Try.func101, Try.ntmps101
  go_wp2_with fail
  have st := Q2.made w 117 51 #[.pointer p0, .pointer p1, .pointer p2, .pointer p3, .pointer p4, .bool false] #[.bool false, .string ⟨#[]⟩, .string ⟨#[]⟩, .slice none 0 0, .slice none 0 0, .string ⟨#[]⟩]
  generalize World.alloc (World.alloc w _) _ = W at st ⊢
  refine (HA.out _ st.below).mono ?_
  rintro e w1 ⟨a, gs, hpl, rfl, hg, hb1⟩
  obtain ⟨sc, A, n, c, B, m, d, rfl⟩ := hg.atom_form
  have hlt1 := st.b.lt
  have hsz := hb1.size
  have st1 : QG w 117 51 51 #[.pointer p0, .pointer p1, .pointer p2, .pointer p3, .pointer p4, .bool false] #[.bool false, .string ⟨#[]⟩, .string ⟨#[]⟩, .slice none 0 0, .slice none 0 0, .string ⟨#[]⟩] #[.bool false, .string ⟨#[]⟩, .string sc, .slice A n c, .slice B m d, .string ⟨#[]⟩] w1.heap.size (w1.alloc (.cells #[.bool false, .string ⟨#[]⟩, .string sc, .slice A n c, .slice B m d, .string ⟨#[]⟩] 51)) := ⟨(st.call hb1).call ((Below.refl _ _).alloc (Nat.le_refl _) _), Bk.new _ _ _, by omega⟩
  have hg1 : SAt (FrG (w.heap.size + 1) w1.heap.size (w1.alloc (.cells #[.bool false, .string ⟨#[]⟩, .string sc, .slice A n c, .slice B m d, .string ⟨#[]⟩] 51))) (w1.alloc (.cells #[.bool false, .string ⟨#[]⟩, .string sc, .slice A n c, .slice B m d, .string ⟨#[]⟩] 51)) .atom a [.string sc, .slice A n c, .slice B m d] :=
    (hg.keeps (Keeps.alloc _ _ fun x hx => hx.2)).mono fun b hb => ⟨by have := hb.1; omega, by have := hb.2; omega, by rw [World.size_alloc]; have := hb.2; omega⟩
  have H1 := hide (And.intro st1 hg1)
  have Hpl := hide hpl
  clear st st1 hg1 hg hb1 HA hpl
  go_upto_region 2 with fail
  have h1 := H1.out
  clear H1
  obtain ⟨g, hgg⟩ : ∃ g, w1.heap.size = g := ⟨_, rfl⟩
  rw [hgg] at h1 ⊢
  generalize World.alloc w1 _ = W2 at h1 ⊢
  obtain ⟨st, hg⟩ := h1
  clear hsz hgg hlt1
  have hgl := st.gb.lt
  have hgl0 := st.q.a.lt
  have hgl1 := st.q.b.lt
  have fz := st.gb.free
  have q0 := st.q.a.cell 0
  have q1 := st.q.a.cell 1
  have q2 := st.q.a.cell 2
  have q3 := st.q.a.cell 3
  have q4 := st.q.a.cell 4
  have q5 := st.q.a.cell 5
  have k0 := st.gb.cell 0
  have k1 := st.gb.cell 1
  have k2 := st.gb.cell 2
  have k3 := st.gb.cell 3
  have k4 := st.gb.cell 4
  have k5 := st.gb.cell 5
  simp at q0 q1 q2 q3 q4 q5 k0 k1 k2 k3 k4 k5
  go_upto_if 10 with fail
  go_cut [3] (fun s wx => ∃ (b : Bool) (nm : ByteArray), s = .pointer (some ⟨g, 0, none⟩) ∧ QG w 117 51 51 #[.pointer p0, .pointer p1, .pointer p2, .pointer p3, .pointer p4, .bool false] #[.bool false, .string ⟨#[]⟩, .string ⟨#[]⟩, .slice none 0 0, .slice none 0 0, .string ⟨#[]⟩] #[.bool b, .string nm, .string sc, .slice A n c, .slice B m d, .string ⟨#[]⟩] g wx ∧ SAt (FrG (w.heap.size + 1) g wx) wx .atom a [.string sc, .slice A n c, .slice B m d] ∧ Nm named b nm)
  case first =>
    rcases Hn.out.1 with ⟨e1, e2⟩ | ⟨nm, gn, e1, e2, hF, hB, hsz⟩
    · cases e2
      subst e1
      have H2 := hide (And.intro st hg)
      clear st hg
      go_wp2_with fail
      go_meet
      exact ⟨false, ⟨#[]⟩, rfl, H2.out.1, H2.out.2, .inl ⟨rfl, rfl⟩, by simp [ByteArray.size]⟩
    · cases e2
      subst e1
      have hgn : gn < w.heap.size := hF
      have hsz' : nm.size ≤ 140737488351232 := hsz
      have qn := (hB.below st.q.below hgn).cell 0
      simp at qn
      have st2 := (st.setC 0 (.bool true)).setC 1 (.string nm)
      simp at st2
      have hg2 : SAt (FrG (w.heap.size + 1) g ((W2.setCell ⟨g, 0, none⟩ (.bool true)).setCell ⟨g, 1, none⟩ (.string nm))) ((W2.setCell ⟨g, 0, none⟩ (.bool true)).setCell ⟨g, 1, none⟩ (.string nm)) .atom a [.string sc, .slice A n c, .slice B m d] := by
        refine (hg.keeps fun b hb => ?_).mono fun b hb => ⟨hb.1, hb.2.1, by simpa using hb.2.2⟩
        rw [Below.heap_setCell _ _ _ _ hb.2.1, Below.heap_setCell _ _ _ _ hb.2.1]
      have hlg := st.lt
      have hn1 : ¬ g = w.heap.size := by omega
      have hn2 : ¬ w.heap.size = g := by omega
      have hn3 : ¬ g = gn := by omega
      have hn4 : ¬ gn = g := by omega
      have H2 := hide (And.intro st2 (And.intro hg2 hsz))
      clear st st2 hg hg2 hB hF
      go_upto_region 3 with fail
      go_region
      all_goals (go_wp2_with fail; go_meet; exact ⟨true, nm, rfl, H2.out.1.call (below_drew (Below.refl _ _)), SAt.drew H2.out.2.1, .inr ⟨rfl, rfl⟩, H2.out.2.2⟩)
  case rest =>
    obtain ⟨b, nm, rfl, st, hg, hnm⟩ := hcut
    clear hgl hgl0 hgl1 fz q0 q1 q2 q3 q4 q5 k0 k1 k2 k3 k4 k5
    have hgl := st.gb.lt
    have hgl0 := st.q.a.lt
    have hgl1 := st.q.b.lt
    have fz := st.gb.free
    have q0 := st.q.a.cell 0
    have q1 := st.q.a.cell 1
    have q2 := st.q.a.cell 2
    have q3 := st.q.a.cell 3
    have q4 := st.q.a.cell 4
    have q5 := st.q.a.cell 5
    have k0 := st.gb.cell 0
    have k1 := st.gb.cell 1
    have k2 := st.gb.cell 2
    have k3 := st.gb.cell 3
    have k4 := st.gb.cell 4
    have k5 := st.gb.cell 5
    simp at q0 q1 q2 q3 q4 q5 k0 k1 k2 k3 k4 k5
    go_upto_if 19 with fail
    go_cut [3] (fun s wx => ∃ r : ByteArray, s = .pointer (some ⟨g, 0, none⟩) ∧ QG w 117 51 51 #[.pointer p0, .pointer p1, .pointer p2, .pointer p3, .pointer p4, .bool false] #[.bool false, .string ⟨#[]⟩, .string ⟨#[]⟩, .slice none 0 0, .slice none 0 0, .string ⟨#[]⟩] #[.bool b, .string nm, .string sc, .slice A n c, .slice B m d, .string r] g wx ∧ SAt (FrG (w.heap.size + 1) g wx) wx .atom a [.string sc, .slice A n c, .slice B m d] ∧ nz r = rel ∧ r.size ≤ R47)
    case first =>
      rcases Hn.out.2.1 with ⟨e1, e2⟩ | ⟨r, gn, e1, e2, hF, hB, hsz⟩
      · cases e2
        subst e1
        have H2 := hide (And.intro st hg)
        clear st hg
        go_wp2_with fail
        go_meet
        exact ⟨⟨#[]⟩, rfl, H2.out.1, H2.out.2, rfl, by simp [ByteArray.size]⟩
      · cases e2
        subst e1
        have hrn : ¬ r = ⟨#[]⟩ := fun e => Hn.out.2.2.2 (by rw [e])
        have hgn : gn < w.heap.size := hF
        have hsz' : r.size ≤ 140737488351232 := hsz
        have qn := (hB.below st.q.below hgn).cell 0
        simp at qn
        have st2 := st.setC 5 (.string r)
        simp at st2
        have hg2 : SAt (FrG (w.heap.size + 1) g (wc.setCell ⟨g, 5, none⟩ (.string r))) (wc.setCell ⟨g, 5, none⟩ (.string r)) .atom a [.string sc, .slice A n c, .slice B m d] := by
          refine (hg.keeps fun b hb => ?_).mono fun b hb => ⟨hb.1, hb.2.1, by simpa using hb.2.2⟩
          rw [Below.heap_setCell _ _ _ _ hb.2.1]
        have H2 := hide (And.intro st2 (And.intro hg2 (And.intro hsz hrn)))
        clear st st2 hg hg2 hB hF hrn
        go_wp2_with fail
        go_meet
        exact ⟨r, rfl, H2.out.1, H2.out.2.1, nz_ne H2.out.2.2.2, H2.out.2.2.1⟩
    case rest =>
      obtain ⟨r, rfl, st, hg, hr, hr47⟩ := hcut
      clear hgl hgl0 hgl1 fz q0 q1 q2 q3 q4 q5 k0 k1 k2 k3 k4 k5
      have hgl := st.gb.lt
      have hgl0 := st.q.a.lt
      have hgl1 := st.q.b.lt
      have fz := st.gb.free
      have q0 := st.q.a.cell 0
      have q1 := st.q.a.cell 1
      have q2 := st.q.a.cell 2
      have q3 := st.q.a.cell 3
      have q4 := st.q.a.cell 4
      have q5 := st.q.a.cell 5
      have k0 := st.gb.cell 0
      have k1 := st.gb.cell 1
      have k2 := st.gb.cell 2
      have k3 := st.gb.cell 3
      have k4 := st.gb.cell 4
      have k5 := st.gb.cell 5
      have fzb := st.q.b.free
      have r0 := st.q.b.cell 0
      have r1 := st.q.b.cell 1
      have r2 := st.q.b.cell 2
      have r3 := st.q.b.cell 3
      have r4 := st.q.b.cell 4
      have r5 := st.q.b.cell 5
      simp at q0 q1 q2 q3 q4 q5 k0 k1 k2 k3 k4 k5 r0 r1 r2 r3 r4 r5
      have hpl := ref_plain hnm hr Hpl.out Hn.out.2.2.1
      have H2 := hide (And.intro st (And.intro hg (And.intro hnm (And.intro hr47 hpl))))
      clear st hg hnm hr hr47 hpl
      go_wp2
      exact ret_IRef rfl _ H2.out.2.2.2.2 (by omega) H2.out.1.q.b H2.out.1.q.below ((SAt.ref H2.out.2.2.1.2 H2.out.2.2.2.1 H2.out.2.1).mono fun b hb => ⟨by have := hb.1; omega, by have := hb.1; omega, hb.2.2⟩) rfl

end Go.Proofs.Ytekaainjpddklaa

/-!
  impl.fromField, of what fromRef makes.
-/

namespace Go.Proofs.Ytekaainjpddklaa
open Go.RowKit
attribute [local go_sem] run_store_float

def FromFieldOK (p : P) : Prop := ∀ (w : World) (cs : List Value), PAt (Old w) w .field p cs → Calls Try.prog 134 #[.agg cs.toArray] w (GivesS .field p w)

theorem T.toRV_null {t : T} (h : t.WS) (hn : t ≠ .null) : dfl (some t.toRV) = t := toRV_tree h

set_option maxRecDepth 100000 in
set_option maxHeartbeats 4000000 in
theorem fromField_of {name : ByteArray} {t : P} {dv : T} (he : FromRefOK t) : FromFieldOK (.field name t dv) := by
  intro w cs h
  cases h with
  | @field _ _ _ c0 c1 c2 c3 c4 c5 u h1 h2 h3 h4 =>
  have HE := hide fun (W : World) (hb : Below w.heap.size w W) => he W _ (h2.at_ hb)
  have HTr := hide fun (W : World) (hb : Below w.heap.size w W) => fromTree_calls dv W u ((h4.keeps (Keeps.below hb fun _ h => h)).mono fun _ h => Nat.lt_of_lt_of_le h hb.size)
  obtain ⟨p0, p1, p2, p3, p4, e'⟩ := h2.ref_form
  simp only [List.cons.injEq, and_true] at e'
  obtain ⟨rfl, rfl, rfl, rfl, rfl, rfl⟩ := e'
  have h1' : name.size ≤ 140737488351232 := h1
  obtain ⟨j9, hj9, hjz, hjs, hjb⟩ := info_parts val_info
  have hu : (dv = .null ∧ u = .nilIface) ∨ (dv ≠ .null ∧ ∃ ti ui, u = .iface ti ui) := by
    cases h4 <;> first | exact .inl ⟨rfl, rfl⟩ | exact .inr ⟨by simp, _, _, rfl⟩
  have H7 := hide (And.intro h1 (And.intro h3 h4))
  clear h1 h2 h3 h4 he
  go_enter Try.func134, Try.ntmps134
  go_upto_region 1 with fail
  have st := Q2.made w 210 111 #[.string name, .pointer p0, .pointer p1, .pointer p2, .pointer p3, .pointer p4, .bool false, u] #[.string ⟨#[]⟩, .bool false, .string ⟨#[]⟩, .string ⟨#[]⟩, .slice none 0 0, .slice none 0 0, .string ⟨#[]⟩, .slice none 0 0]
  generalize World.alloc (World.alloc w _) _ = W at st ⊢
  have Hst := hide st
  clear st
  go_cut [3] (fun s wx => ∃ (g : Nat) (a : Ytekaainjpddklaa.S) (b : Bool) (nm sc : ByteArray) (A : Option Addr) (n c : Nat) (B : Option Addr) (m d : Nat) (r : ByteArray), a.plain = t ∧ s = .pointer (some ⟨g, 0, none⟩) ∧ QG w 210 111 111 #[.string name, .pointer p0, .pointer p1, .pointer p2, .pointer p3, .pointer p4, .bool false, u] #[.string ⟨#[]⟩, .bool false, .string ⟨#[]⟩, .string ⟨#[]⟩, .slice none 0 0, .slice none 0 0, .string ⟨#[]⟩, .slice none 0 0] #[.string name, .bool b, .string nm, .string sc, .slice A n c, .slice B m d, .string r, .slice none 0 0] g wx ∧ SAt (FrG (w.heap.size + 1) g wx) wx .ref a [.bool b, .string nm, .string sc, .slice A n c, .slice B m d, .string r])
  case first =>
    have hS0 : Bk W.drew w.heap.size 210 #[.string name, .pointer p0, .pointer p1, .pointer p2, .pointer p3, .pointer p4, .bool false, u] := Hst.out.a
    obtain ⟨S, hS⟩ : ∃ S, (fun W => Bk W w.heap.size 210 #[.string name, .pointer p0, .pointer p1, .pointer p2, .pointer p3, .pointer p4, .bool false, u]) = S := ⟨_, rfl⟩
    have hS0 : S W.drew := by rw [← hS]; exact hS0
    have hlt1 := Hst.out.b.lt
    refine wp_region_head 7 S (by rfl) (by kernel_rfl) ?_
    refine HT.take 0 (v := ?_) rfl (by kernel_rfl) (fun _ _ _ h => h) (Or.inl ⟨by rfl, ?_⟩) (by assumption) ?_
    rotate_left
    · intro W hSw; rw [← hS] at hSw; have hSw := show Bk W w.heap.size 210 #[.string name, .pointer p0, .pointer p1, .pointer p2, .pointer p3, .pointer p4, .bool false, u] from hSw; have s0 := hSw.cell 0; have s1 := hSw.cell 1; have s2 := hSw.cell 2; have s3 := hSw.cell 3; have s4 := hSw.cell 4; have s5 := hSw.cell 5; have s6 := hSw.cell 6; have s7 := hSw.cell 7; clear hSw; simp at s0 s1 s2 s3 s4 s5 s6 s7; go_simp; with_reducible rfl
    simp only [Act.put, List.setIfInBounds_toArray, List.set_cons_zero, List.set_cons_succ]
    refine HT.take 1 (v := ?_) rfl (by kernel_rfl) (fun _ _ _ h => h) (Or.inl ⟨by rfl, ?_⟩) (by assumption) ?_
    rotate_left
    · intro W hSw; rw [← hS] at hSw; have hSw := show Bk W w.heap.size 210 #[.string name, .pointer p0, .pointer p1, .pointer p2, .pointer p3, .pointer p4, .bool false, u] from hSw; have s0 := hSw.cell 0; have s1 := hSw.cell 1; have s2 := hSw.cell 2; have s3 := hSw.cell 3; have s4 := hSw.cell 4; have s5 := hSw.cell 5; have s6 := hSw.cell 6; have s7 := hSw.cell 7; clear hSw; simp at s0 s1 s2 s3 s4 s5 s6 s7; go_simp; with_reducible rfl
    simp only [Act.put, List.setIfInBounds_toArray, List.set_cons_zero, List.set_cons_succ]
    refine HT.take 2 (v := ?_) rfl (by kernel_rfl) (fun _ _ _ h => h) (Or.inl ⟨by rfl, ?_⟩) (by assumption) ?_
    rotate_left
    · intro W hSw; rw [← hS] at hSw; have hSw := show Bk W w.heap.size 210 #[.string name, .pointer p0, .pointer p1, .pointer p2, .pointer p3, .pointer p4, .bool false, u] from hSw; have s0 := hSw.cell 0; have s1 := hSw.cell 1; have s2 := hSw.cell 2; have s3 := hSw.cell 3; have s4 := hSw.cell 4; have s5 := hSw.cell 5; have s6 := hSw.cell 6; have s7 := hSw.cell 7; clear hSw; simp at s0 s1 s2 s3 s4 s5 s6 s7; go_simp; with_reducible rfl
    simp only [Act.put, List.setIfInBounds_toArray, List.set_cons_zero, List.set_cons_succ]
    refine HT.take 3 (v := ?_) rfl (by kernel_rfl) (fun _ _ _ h => h) (Or.inl ⟨by rfl, ?_⟩) (by assumption) ?_
    rotate_left
    · intro W hSw; rw [← hS] at hSw; have hSw := show Bk W w.heap.size 210 #[.string name, .pointer p0, .pointer p1, .pointer p2, .pointer p3, .pointer p4, .bool false, u] from hSw; have s0 := hSw.cell 0; have s1 := hSw.cell 1; have s2 := hSw.cell 2; have s3 := hSw.cell 3; have s4 := hSw.cell 4; have s5 := hSw.cell 5; have s6 := hSw.cell 6; have s7 := hSw.cell 7; clear hSw; simp at s0 s1 s2 s3 s4 s5 s6 s7; go_simp; with_reducible rfl
    simp only [Act.put, List.setIfInBounds_toArray, List.set_cons_zero, List.set_cons_succ]
    refine HT.two 4 6 rfl rfl (by kernel_rfl) (by rfl) (by rfl) (fun K hK => ?_) (fun K hK => ?_)
    · go_simp
      refine (HE.out W.drew (below_drew Hst.out.below)).mono ?_
      rintro e w1 ⟨a, es, hpl, rfl, hp, hb1⟩
      have hb1 : Below W.heap.size W w1 := below_drew' hb1
      have hp : SAt (Fr W.heap.size w1) w1 .ref _ es := hp
      obtain ⟨b, nm, sc, A, n, c, B, m, d, r, rfl⟩ := hp.ref_form
      have st1 := Hst.out.call hb1
      go_simp
      have hS1 : S w1 := by rw [← hS]; exact st1.a
      refine hK.out _ _ hS1 ?_
      clear hK
      refine HT.take 5 (v := ?_) rfl (by kernel_rfl) (fun _ _ _ h => h) (Or.inl ⟨by rfl, ?_⟩) (by assumption) ?_
      rotate_left
      · intro W hSw; go_simp; with_reducible rfl
      simp only [Act.put, List.setIfInBounds_toArray, List.set_cons_zero, List.set_cons_succ]
      refine HT.one 6 rfl (by kernel_rfl) (by rfl) (fun K hK => ?_)
      go_simp
      refine hK.out _ _ (by rw [← hS]; exact st1.a.alloc _) ?_
      clear hK
      refine HT.done (by kernel_rfl) ?_
      simp only [List.drop_succ_cons, List.drop_zero]
      clear hS0 hS
      have hsz := hb1.size
      have hlt2 := st1.b.lt
      go_wp2_with fail
      go_meet
      refine ⟨w1.heap.size, a, b, nm, sc, A, n, c, B, m, d, r, hpl, rfl, ⟨st1.call ((Below.refl _ _).alloc (Nat.le_refl _) _), Bk.new _ _ _, by omega⟩, (hp.keeps (Keeps.alloc _ _ fun x hx => hx.2)).mono fun b hb => ⟨by have := hb.1; omega, by have := hb.2; omega, by rw [World.size_alloc]; have := hb.2; omega⟩⟩
    · go_simp
      refine hK.out _ _ (by rw [← hS]; exact Hst.out.a.alloc _) ?_
      clear hK
      refine HT.one 4 rfl (by kernel_rfl) (by rfl) (fun K hK => ?_)
      go_simp
      have hbA : Below W.heap.size W (W.drew.alloc (.cells #[.string ⟨#[]⟩, .bool false, .string ⟨#[]⟩, .string ⟨#[]⟩, .slice none 0 0, .slice none 0 0, .string ⟨#[]⟩, .slice none 0 0] 111)) := (below_drew (Below.refl _ _)).alloc (Nat.le_refl _) _
      refine (HE.out _ (Hst.out.below.trans (hbA.mono Hst.out.below.size))).mono ?_
      rintro e w1 ⟨a, es, hpl, rfl, hp, hb1⟩
      obtain ⟨b, nm, sc, A, n, c, B, m, d, r, rfl⟩ := hp.ref_form
      have st1 := (Hst.out.call hbA).call hb1
      go_simp
      have hS1 : S w1 := by rw [← hS]; exact st1.a
      refine hK.out _ _ hS1 ?_
      clear hK
      refine HT.take 5 (v := ?_) rfl (by kernel_rfl) (fun _ _ _ h => h) (Or.inl ⟨by rfl, ?_⟩) (by assumption) ?_
      rotate_left
      · intro W hSw; go_simp; with_reducible rfl
      simp only [Act.put, List.setIfInBounds_toArray, List.set_cons_zero, List.set_cons_succ]
      refine HT.done (by kernel_rfl) ?_
      simp only [List.drop_succ_cons, List.drop_zero]
      clear hS0 hS
      have hg : Bk w1 W.heap.size 111 #[.string ⟨#[]⟩, .bool false, .string ⟨#[]⟩, .string ⟨#[]⟩, .slice none 0 0, .slice none 0 0, .string ⟨#[]⟩, .slice none 0 0] := (Bk.new W.drew _ _).below hb1 (by rw [World.size_alloc]; exact Nat.lt_succ_self _)
      have hgl := hg.lt
      have fz := hg.free
      have r0 := hg.cell 0
      have r1 := hg.cell 1
      have r2 := hg.cell 2
      have r3 := hg.cell 3
      have r4 := hg.cell 4
      have r5 := hg.cell 5
      have r6 := hg.cell 6
      have r7 := hg.cell 7
      simp at r0 r1 r2 r3 r4 r5 r6 r7
      have hs8 := set8_same (.string name) (.bool b) (.string nm) (.string sc) (.slice A n c) (.slice B m d) (.string r) (.slice none 0 0) hg
      have hh8 := set8_heap w1 W.heap.size (.string name) (.bool b) (.string nm) (.string sc) (.slice A n c) (.slice B m d) (.string r) (.slice none 0 0)
      have hb8 := set8_below (.string name) (.bool b) (.string nm) (.string sc) (.slice A n c) (.slice B m d) (.string r) (.slice none 0 0) st1.below (Nat.le_of_lt (Nat.lt_trans (Nat.lt_succ_self _) hlt1))
      have hz8 := set8_size w1 W.heap.size (.string name) (.bool b) (.string nm) (.string sc) (.slice A n c) (.slice B m d) (.string r) (.slice none 0 0)
      have hfin : QG w 210 111 111 #[.string name, .pointer p0, .pointer p1, .pointer p2, .pointer p3, .pointer p4, .bool false, u] #[.string ⟨#[]⟩, .bool false, .string ⟨#[]⟩, .string ⟨#[]⟩, .slice none 0 0, .slice none 0 0, .string ⟨#[]⟩, .slice none 0 0] #[.string name, .bool b, .string nm, .string sc, .slice A n c, .slice B m d, .string r, .slice none 0 0] W.heap.size (set8 w1 W.heap.size (.string name) (.bool b) (.string nm) (.string sc) (.slice A n c) (.slice B m d) (.string r) (.slice none 0 0)) :=
        ⟨⟨hb8, (hh8 _ (by omega)).trans st1.a, (hh8 _ (by omega)).trans st1.b⟩, hs8, hlt1⟩
      have hfp : SAt (FrG (w.heap.size + 1) W.heap.size (set8 w1 W.heap.size (.string name) (.bool b) (.string nm) (.string sc) (.slice A n c) (.slice B m d) (.string r) (.slice none 0 0))) (set8 w1 W.heap.size (.string name) (.bool b) (.string nm) (.string sc) (.slice A n c) (.slice B m d) (.string r) (.slice none 0 0)) .ref a [.bool b, .string nm, .string sc, .slice A n c, .slice B m d, .string r] := by
        have hlo : ∀ b, Fr (W.drew.alloc (.cells #[.string ⟨#[]⟩, .bool false, .string ⟨#[]⟩, .string ⟨#[]⟩, .slice none 0 0, .slice none 0 0, .string ⟨#[]⟩, .slice none 0 0] 111)).heap.size w1 b → W.heap.size + 1 ≤ b := fun b hb => by
          have := hb.1
          rw [World.size_alloc] at this
          exact this
        exact (hp.keeps fun b hb => hh8 b (by have := hlo b hb; omega)).mono fun b hb => ⟨by have := hlo b hb; omega, by have := hlo b hb; omega, by rw [hz8]; exact hb.2⟩
      have Hfin := hide (And.intro hfin (And.intro hfp hpl))
      clear hs8 hh8 hb8 hz8 hfin hfp hg st1 hp hbA hb1 hpl
      go_wp2_with fail
      go_meet
      exact ⟨W.heap.size, a, b, nm, sc, A, n, c, B, m, d, r, Hfin.out.2.2, rfl, Hfin.out.1, Hfin.out.2.1⟩
  case rest =>
    obtain ⟨g, a, b, nm, sc, A, n, c, B, m, d, r, hpl, rfl, hq, hp⟩ := hcut
    have Hpl := hide hpl
    clear Hst HE hpl
    rcases hu with ⟨hd, rfl⟩ | ⟨hd, ti, ui, rfl⟩
    · have hgl := hq.gb.lt
      have hgl0 := hq.q.a.lt
      have hgl1 := hq.q.b.lt
      have fzb := hq.q.b.free
      have q7 := hq.q.a.cell 7
      have k0 := hq.gb.cell 0
      have k1 := hq.gb.cell 1
      have k2 := hq.gb.cell 2
      have k3 := hq.gb.cell 3
      have k4 := hq.gb.cell 4
      have k5 := hq.gb.cell 5
      have k6 := hq.gb.cell 6
      have k7 := hq.gb.cell 7
      have r0 := hq.q.b.cell 0
      have r1 := hq.q.b.cell 1
      have r2 := hq.q.b.cell 2
      have r3 := hq.q.b.cell 3
      have r4 := hq.q.b.cell 4
      have r5 := hq.q.b.cell 5
      have r6 := hq.q.b.cell 6
      have r7 := hq.q.b.cell 7
      simp at q7 k0 k1 k2 k3 k4 k5 k6 k7 r0 r1 r2 r3 r4 r5 r6 r7
      have H2 := hide (And.intro hq (And.intro hp hd))
      clear hq hp hd
      go_wp2
      have hlt := H2.out.1.lt
      exact ret_IField rfl _ (show (Ytekaainjpddklaa.S.field name a none).plain = _ by rw [Ytekaainjpddklaa.S.plain, Hpl.out, H2.out.2.2]; rfl) (by omega) H2.out.1.q.b H2.out.1.q.below (.field H7.out.1 (H2.out.2.1.mono fun b hb => ⟨by have := hb.1; omega, by have := hb.1; omega, hb.2.2⟩) (by decide) (Nat.le_refl _) (by decide) (by simp) Row.nil_ (by simp)) rfl
    · have hgl := hq.gb.lt
      have hgl0 := hq.q.a.lt
      have hgl1 := hq.q.b.lt
      have q7 := hq.q.a.cell 7
      simp at q7
      have HP := hide (HTr.out _ hq.q.below)
      have H2 := hide (And.intro hq (And.intro hp hd))
      clear hq hp hd HTr
      go_wp2_with fail
      refine HP.out.mono ?_
      rintro e w1 ⟨ds, rfl, hv, hb1⟩
      obtain ⟨d0, d1, d2, d3, dA, dn, dc, eA, en, ec, rfl⟩ := hv.form
      have hv : RVAt (Fr wc.heap.size w1) w1 _ _ := hv.mono fun b hb => hb.resolve_left fun h => h
      have hq0 := H2.out.1.call hb1
      have hq1 := (hq0.setC 7 (.slice (some ⟨w1.heap.size, 0, none⟩) 1 1)).call ((Below.refl _ _).alloc (Nat.le_refl _) (.cells #[.int .i64 d0, .int .i64 d1, .float .f64 d2, .string d3, .slice dA dn dc, .slice eA en ec] 26))
      simp at hq1
      have hsz := hb1.size
      have hnew : Bk ((w1.setCell ⟨g, 7, none⟩ (.slice (some ⟨w1.heap.size, 0, none⟩) 1 1)).alloc (.cells #[.int .i64 d0, .int .i64 d1, .float .f64 d2, .string d3, .slice dA dn dc, .slice eA en ec] 26)) w1.heap.size 26 #[.int .i64 d0, .int .i64 d1, .float .f64 d2, .string d3, .slice dA dn dc, .slice eA en ec] := by
        have := Bk.new (w1.setCell ⟨g, 7, none⟩ (.slice (some ⟨w1.heap.size, 0, none⟩) 1 1)) 26 #[.int .i64 d0, .int .i64 d1, .float .f64 d2, .string d3, .slice dA dn dc, .slice eA en ec]
        simpa using this
      have hz3 : ((w1.setCell ⟨g, 7, none⟩ (.slice (some ⟨w1.heap.size, 0, none⟩) 1 1)).alloc (.cells #[.int .i64 d0, .int .i64 d1, .float .f64 d2, .string d3, .slice dA dn dc, .slice eA en ec] 26)).heap.size = w1.heap.size + 1 := by simp
      have hp3 : SAt (FrN w.heap.size (w.heap.size + 1) ((w1.setCell ⟨g, 7, none⟩ (.slice (some ⟨w1.heap.size, 0, none⟩) 1 1)).alloc (.cells #[.int .i64 d0, .int .i64 d1, .float .f64 d2, .string d3, .slice dA dn dc, .slice eA en ec] 26))) ((w1.setCell ⟨g, 7, none⟩ (.slice (some ⟨w1.heap.size, 0, none⟩) 1 1)).alloc (.cells #[.int .i64 d0, .int .i64 d1, .float .f64 d2, .string d3, .slice dA dn dc, .slice eA en ec] 26)) .ref a [.bool b, .string nm, .string sc, .slice A n c, .slice B m d, .string r] := by
        refine (H2.out.2.1.keeps fun b hb => ?_).mono fun b hb => ⟨by have := hb.1; omega, by have := hb.1; omega, by rw [hz3]; have := hb.2.2; omega⟩
        have h3 := hb.2.2
        rw [Below.heap_alloc _ _ _ (by simp <;> omega), Below.heap_setCell _ _ _ _ hb.2.1, hb1.block b h3]
      have hv3 : RVAt (FrN w.heap.size (w.heap.size + 1) ((w1.setCell ⟨g, 7, none⟩ (.slice (some ⟨w1.heap.size, 0, none⟩) 1 1)).alloc (.cells #[.int .i64 d0, .int .i64 d1, .float .f64 d2, .string d3, .slice dA dn dc, .slice eA en ec] 26))) ((w1.setCell ⟨g, 7, none⟩ (.slice (some ⟨w1.heap.size, 0, none⟩) 1 1)).alloc (.cells #[.int .i64 d0, .int .i64 d1, .float .f64 d2, .string d3, .slice dA dn dc, .slice eA en ec] 26)) dv.toRV [.int .i64 d0, .int .i64 d1, .float .f64 d2, .string d3, .slice dA dn dc, .slice eA en ec] := by
        refine (hv.keeps fun b hb => ?_).mono fun b hb => ⟨by have := hb.1; omega, by have := hb.1; omega, by rw [hz3]; have := hb.2; omega⟩
        have h3 := hb.2
        have h4 := hb.1
        rw [Below.heap_alloc _ _ _ (by simp <;> omega), Below.heap_setCell _ _ _ _ (by simp only; omega)]
      have hrow : Row (FrN w.heap.size (w.heap.size + 1) ((w1.setCell ⟨g, 7, none⟩ (.slice (some ⟨w1.heap.size, 0, none⟩) 1 1)).alloc (.cells #[.int .i64 d0, .int .i64 d1, .float .f64 d2, .string d3, .slice dA dn dc, .slice eA en ec] 26))) ((w1.setCell ⟨g, 7, none⟩ (.slice (some ⟨w1.heap.size, 0, none⟩) 1 1)).alloc (.cells #[.int .i64 d0, .int .i64 d1, .float .f64 d2, .string d3, .slice dA dn dc, .slice eA en ec] 26)) 6 (some ⟨w1.heap.size, 0, none⟩) 1 [.int .i64 d0, .int .i64 d1, .float .f64 d2, .string d3, .slice dA dn dc, .slice eA en ec] := Row.of_bk hnew rfl ⟨by omega, by omega, by rw [hz3]; omega⟩
      have hglx := hq0.gb.lt
      have fz := hq0.gb.free
      have k7 := hq0.gb.cell 7
      simp at k7
      have H3 := hide (And.intro hq1 (And.intro hp3 (And.intro hv3 hrow)))
      clear hq0 hq1 hnew hp3 hv3 hrow hv hb1 hz3 q7
      go_upto_region 4 with fail
      have h3 := H3.out
      clear H3 HP fz k7 hgl hgl0 hgl1 hglx hsz
      generalize World.alloc (World.setCell w1 _ _) _ = W2 at h3 ⊢
      obtain ⟨hq, hp, hv, hrow⟩ := h3
      have hgl := hq.gb.lt
      have hgl1 := hq.q.b.lt
      have fzb := hq.q.b.free
      have k0 := hq.gb.cell 0
      have k1 := hq.gb.cell 1
      have k2 := hq.gb.cell 2
      have k3 := hq.gb.cell 3
      have k4 := hq.gb.cell 4
      have k5 := hq.gb.cell 5
      have k6 := hq.gb.cell 6
      have k7 := hq.gb.cell 7
      have r0 := hq.q.b.cell 0
      have r1 := hq.q.b.cell 1
      have r2 := hq.q.b.cell 2
      have r3 := hq.q.b.cell 3
      have r4 := hq.q.b.cell 4
      have r5 := hq.q.b.cell 5
      have r6 := hq.q.b.cell 6
      have r7 := hq.q.b.cell 7
      simp at k0 k1 k2 k3 k4 k5 k6 k7 r0 r1 r2 r3 r4 r5 r6 r7
      have H3 := hide (And.intro hq (And.intro hp (And.intro hv hrow)))
      clear hq hp hv hrow
      go_wp2
      exact ret_IField rfl _ (show (Ytekaainjpddklaa.S.field name a (some dv.toRV)).plain = _ by rw [Ytekaainjpddklaa.S.plain, Hpl.out, T.toRV_null H7.out.2.1 H2.out.2.2]) (by omega) H3.out.1.q.b H3.out.1.q.below (.field (xs := [.int .i64 d0, .int .i64 d1, .float .f64 d2, .string d3, .slice dA dn dc, .slice eA en ec]) H7.out.1 H3.out.2.1 (by decide) (Nat.le_refl _) (by decide) (by simp) H3.out.2.2.2 (fun x e => by cases e; exact H3.out.2.2.1)) rfl

end Go.Proofs.Ytekaainjpddklaa

/-!
  impl.fromMapType, of what fromRef and fromField make.
-/

namespace Go.Proofs.Ytekaainjpddklaa
open Go.RowKit
attribute [local go_sem] run_store_float

def FromMapOK (p : P) : Prop := ∀ (w : World) (gm : Nat) (cs : List Value), gm < w.heap.size → Bk w gm 175 cs.toArray → PAt (Old w) w .map p cs → Calls Try.prog 102 #[.pointer (some ⟨gm, 0, none⟩)] w (GivesS .map p w)

/-- the result's block, and another that lies somewhere behind it -/
structure QM (w : World) (tb tc : TypeId) (b c : Array Value) (g : Nat) (W : World) : Prop where
  below : Below w.heap.size w W
  b : Bk W w.heap.size tb b
  gb : Bk W g tc c
  lt : w.heap.size < g
theorem QM.call {w W W' : World} {tb tc : TypeId} {b c : Array Value} {g : Nat} (h : QM w tb tc b c g W) (hb : Below W.heap.size W W') : QM w tb tc b c g W' :=
  ⟨h.below.trans (hb.mono h.below.size), h.b.below hb h.b.lt, h.gb.below hb h.gb.lt, h.lt⟩
theorem QM.setC {w W : World} {tb tc : TypeId} {b c : Array Value} {g : Nat} (h : QM w tb tc b c g W) (i : Nat) (u : Value) : QM w tb tc b (c.setIfInBounds i u) g (W.setCell ⟨g, i, none⟩ u) := by
  have := h.lt
  exact ⟨h.below.setCell (by simp only; omega) _, h.b.far (by simp only; omega) _, h.gb.set_ i u, h.lt⟩
theorem QM.grown {w W W' : World} {tb tc : TypeId} {b c : Array Value} {g B : Nat} {row : Option Nat} (h : QM w tb tc b c g W) (hg : W.grownBy W' row) (hr : ∀ k, row = some k → B ≤ k) (hB : g < B) : QM w tb tc b c g W' := by
  have hlt := h.lt
  have hne : ∀ x, x < B → some x ≠ row := fun x hx e => by have := hr x e.symm; omega
  exact ⟨h.below.grown hg h.below.size fun k e => by have := hr k e; omega, h.b.grown hg (hne _ (by omega)), h.gb.grown hg (hne _ hB), hlt⟩

theorem ifield_info : (Try.prog.info? 111).map (fun i => (i.zero, i.size, i.bytes)) = some (some (.agg #[.string ⟨#[]⟩, .bool false, .string ⟨#[]⟩, .string ⟨#[]⟩, .slice none 0 0, .slice none 0 0, .string ⟨#[]⟩, .slice none 0 0]), 8, 144) := by kernel_rfl

/-- at the head of a round of fromMapType -/
def FMInv (w : World) (zero : Array Value) (rest : Value → Array Value) (g B0 : Nat) (W0 : World) (fs : List P) (s : Value) (W : World) : Prop :=
  ∃ (k : Nat) (out : Value) (us : List Value) (L : List Ytekaainjpddklaa.S), s = .int .i64 (k : Int) ∧ k ≤ fs.length ∧ L.map Ytekaainjpddklaa.S.plain = fs.take k ∧ QM w 109 109 zero (rest out) g W ∧ W.ownsRow B0 111 8 out k us ∧ Cells 8 (SAt (FrX B0 W out) W .field) L us ∧
    Keeps (FrG w.heap.size g W0) W0 W ∧ B0 ≤ W.heap.size

set_option maxRecDepth 100000 in
set_option maxHeartbeats 4000000 in
theorem fromMap_of {fs : List P} {t : P} {rel : ByteArray} (he : FromRefOK t) (hf : ∀ x ∈ fs, FromFieldOK x) : FromMapOK (.map fs t rel) := by
  intro w gm cs hgm hBm h
  cases h with
  | @map _ _ _ c0 c1 c2 c3 c4 c5 FA fc xs h1 h2 h3 h4 h5 h6 h7 =>
  have HE := hide fun (W : World) (hb : Below w.heap.size w W) => he W _ (h6.at_ hb)
  obtain ⟨p0, p1, p2, p3, p4, e'⟩ := h6.ref_form
  simp only [List.cons.injEq, and_true] at e'
  obtain ⟨rfl, rfl, rfl, rfl, rfl, rfl⟩ := e'
  have h1' : fs.length * 144 ≤ 140737488351232 := h1
  have h7' : rel.size ≤ 140737488351232 := h7
  have H7 := hide (And.intro h7 (And.intro h1 (And.intro h4 h5)))
  have HF := hide hf
  have hBm : Bk w gm 175 #[.slice FA fs.length fc, .slice none 0 0, .pointer p0, .pointer p1, .pointer p2, .pointer p3, .pointer p4, .bool false, .string rel] := hBm
  have HB := hide hBm
  obtain ⟨i9, hi9, hz9, hs9, hb9⟩ := info_parts ifield_info
  clear h1 h4 h5 h6 h7 hf he hBm
  go_enter Try.func102, Try.ntmps102
  go_upto_region 1 with fail
  have hb0 : Below w.heap.size w (w.alloc (.cells #[.slice none 0 0, .bool false, .string ⟨#[]⟩, .string ⟨#[]⟩, .slice none 0 0, .slice none 0 0, .string ⟨#[]⟩, .string ⟨#[]⟩] 109)) := (Below.refl _ _).alloc (Nat.le_refl _) _
  have hR0 := Bk.new w 109 #[.slice none 0 0, .bool false, .string ⟨#[]⟩, .string ⟨#[]⟩, .slice none 0 0, .slice none 0 0, .string ⟨#[]⟩, .string ⟨#[]⟩]
  generalize World.alloc w _ = W at hb0 hR0 ⊢
  have Hst := hide (And.intro hb0 hR0)
  clear hb0 hR0
  go_cut [3] (fun s wx => ∃ (g : Nat) (a : Ytekaainjpddklaa.S) (b : Bool) (nm sc : ByteArray) (A : Option Addr) (n c : Nat) (B : Option Addr) (m d : Nat) (r : ByteArray), a.plain = t ∧ s = .pointer (some ⟨g, 0, none⟩) ∧ QM w 109 109 #[.slice none 0 0, .bool false, .string ⟨#[]⟩, .string ⟨#[]⟩, .slice none 0 0, .slice none 0 0, .string ⟨#[]⟩, .string ⟨#[]⟩] #[.slice none 0 0, .bool b, .string nm, .string sc, .slice A n c, .slice B m d, .string r, .string rel] g wx ∧ SAt (FrG w.heap.size g wx) wx .ref a [.bool b, .string nm, .string sc, .slice A n c, .slice B m d, .string r])
  case first =>
    have hS0 : Bk W.drew gm 175 #[.slice FA fs.length fc, .slice none 0 0, .pointer p0, .pointer p1, .pointer p2, .pointer p3, .pointer p4, .bool false, .string rel] := HB.out.below (below_drew Hst.out.1) hgm
    obtain ⟨S, hS⟩ : ∃ S, (fun W => Bk W gm 175 #[.slice FA fs.length fc, .slice none 0 0, .pointer p0, .pointer p1, .pointer p2, .pointer p3, .pointer p4, .bool false, .string rel]) = S := ⟨_, rfl⟩
    have hS0 : S W.drew := by rw [← hS]; exact hS0
    have hlt1 := Hst.out.2.lt
    refine wp_region_head 11 S (by rfl) (by kernel_rfl) ?_
    refine HT.take 0 (v := ?_) rfl (by kernel_rfl) (fun _ _ _ h => h) (Or.inl ⟨by rfl, ?_⟩) (by assumption) ?_
    rotate_left
    · intro W hSw; rw [← hS] at hSw; have hSw := show Bk W gm 175 #[.slice FA fs.length fc, .slice none 0 0, .pointer p0, .pointer p1, .pointer p2, .pointer p3, .pointer p4, .bool false, .string rel] from hSw; have sl := hSw.lt; have s0 := hSw.cell 0; have s1 := hSw.cell 1; have s2 := hSw.cell 2; have s3 := hSw.cell 3; have s4 := hSw.cell 4; have s5 := hSw.cell 5; have s6 := hSw.cell 6; have s7 := hSw.cell 7; have s8 := hSw.cell 8; clear hSw; simp at s0 s1 s2 s3 s4 s5 s6 s7 s8; go_simp; with_reducible rfl
    simp only [Act.put, List.setIfInBounds_toArray, List.set_cons_zero, List.set_cons_succ]
    refine HT.take 1 (v := ?_) rfl (by kernel_rfl) (fun _ _ _ h => h) (Or.inl ⟨by rfl, ?_⟩) (by assumption) ?_
    rotate_left
    · intro W hSw; rw [← hS] at hSw; have hSw := show Bk W gm 175 #[.slice FA fs.length fc, .slice none 0 0, .pointer p0, .pointer p1, .pointer p2, .pointer p3, .pointer p4, .bool false, .string rel] from hSw; have sl := hSw.lt; have s0 := hSw.cell 0; have s1 := hSw.cell 1; have s2 := hSw.cell 2; have s3 := hSw.cell 3; have s4 := hSw.cell 4; have s5 := hSw.cell 5; have s6 := hSw.cell 6; have s7 := hSw.cell 7; have s8 := hSw.cell 8; clear hSw; simp at s0 s1 s2 s3 s4 s5 s6 s7 s8; go_simp; with_reducible rfl
    simp only [Act.put, List.setIfInBounds_toArray, List.set_cons_zero, List.set_cons_succ]
    refine HT.take 2 (v := ?_) rfl (by kernel_rfl) (fun _ _ _ h => h) (Or.inl ⟨by rfl, ?_⟩) (by assumption) ?_
    rotate_left
    · intro W hSw; rw [← hS] at hSw; have hSw := show Bk W gm 175 #[.slice FA fs.length fc, .slice none 0 0, .pointer p0, .pointer p1, .pointer p2, .pointer p3, .pointer p4, .bool false, .string rel] from hSw; have sl := hSw.lt; have s0 := hSw.cell 0; have s1 := hSw.cell 1; have s2 := hSw.cell 2; have s3 := hSw.cell 3; have s4 := hSw.cell 4; have s5 := hSw.cell 5; have s6 := hSw.cell 6; have s7 := hSw.cell 7; have s8 := hSw.cell 8; clear hSw; simp at s0 s1 s2 s3 s4 s5 s6 s7 s8; go_simp; with_reducible rfl
    simp only [Act.put, List.setIfInBounds_toArray, List.set_cons_zero, List.set_cons_succ]
    refine HT.take 3 (v := ?_) rfl (by kernel_rfl) (fun _ _ _ h => h) (Or.inl ⟨by rfl, ?_⟩) (by assumption) ?_
    rotate_left
    · intro W hSw; rw [← hS] at hSw; have hSw := show Bk W gm 175 #[.slice FA fs.length fc, .slice none 0 0, .pointer p0, .pointer p1, .pointer p2, .pointer p3, .pointer p4, .bool false, .string rel] from hSw; have sl := hSw.lt; have s0 := hSw.cell 0; have s1 := hSw.cell 1; have s2 := hSw.cell 2; have s3 := hSw.cell 3; have s4 := hSw.cell 4; have s5 := hSw.cell 5; have s6 := hSw.cell 6; have s7 := hSw.cell 7; have s8 := hSw.cell 8; clear hSw; simp at s0 s1 s2 s3 s4 s5 s6 s7 s8; go_simp; with_reducible rfl
    simp only [Act.put, List.setIfInBounds_toArray, List.set_cons_zero, List.set_cons_succ]
    refine HT.take 5 (v := ?_) rfl (by kernel_rfl) (fun _ _ _ h => h) (Or.inl ⟨by rfl, ?_⟩) (by assumption) ?_
    rotate_left
    · intro W hSw; rw [← hS] at hSw; have hSw := show Bk W gm 175 #[.slice FA fs.length fc, .slice none 0 0, .pointer p0, .pointer p1, .pointer p2, .pointer p3, .pointer p4, .bool false, .string rel] from hSw; have sl := hSw.lt; have s0 := hSw.cell 0; have s1 := hSw.cell 1; have s2 := hSw.cell 2; have s3 := hSw.cell 3; have s4 := hSw.cell 4; have s5 := hSw.cell 5; have s6 := hSw.cell 6; have s7 := hSw.cell 7; have s8 := hSw.cell 8; clear hSw; simp at s0 s1 s2 s3 s4 s5 s6 s7 s8; go_simp; with_reducible rfl
    simp only [Act.put, List.setIfInBounds_toArray, List.set_cons_zero, List.set_cons_succ]
    refine HT.take 6 (v := ?_) rfl (by kernel_rfl) (fun _ _ _ h => h) (Or.inl ⟨by rfl, ?_⟩) (by assumption) ?_
    rotate_left
    · intro W hSw; rw [← hS] at hSw; have hSw := show Bk W gm 175 #[.slice FA fs.length fc, .slice none 0 0, .pointer p0, .pointer p1, .pointer p2, .pointer p3, .pointer p4, .bool false, .string rel] from hSw; have sl := hSw.lt; have s0 := hSw.cell 0; have s1 := hSw.cell 1; have s2 := hSw.cell 2; have s3 := hSw.cell 3; have s4 := hSw.cell 4; have s5 := hSw.cell 5; have s6 := hSw.cell 6; have s7 := hSw.cell 7; have s8 := hSw.cell 8; clear hSw; simp at s0 s1 s2 s3 s4 s5 s6 s7 s8; go_simp; with_reducible rfl
    simp only [Act.put, List.setIfInBounds_toArray, List.set_cons_zero, List.set_cons_succ]
    refine HT.take 7 (v := ?_) rfl (by kernel_rfl) (fun _ _ _ h => h) (Or.inl ⟨by rfl, ?_⟩) (by assumption) ?_
    rotate_left
    · intro W hSw; rw [← hS] at hSw; have hSw := show Bk W gm 175 #[.slice FA fs.length fc, .slice none 0 0, .pointer p0, .pointer p1, .pointer p2, .pointer p3, .pointer p4, .bool false, .string rel] from hSw; have sl := hSw.lt; have s0 := hSw.cell 0; have s1 := hSw.cell 1; have s2 := hSw.cell 2; have s3 := hSw.cell 3; have s4 := hSw.cell 4; have s5 := hSw.cell 5; have s6 := hSw.cell 6; have s7 := hSw.cell 7; have s8 := hSw.cell 8; clear hSw; simp at s0 s1 s2 s3 s4 s5 s6 s7 s8; go_simp; with_reducible rfl
    simp only [Act.put, List.setIfInBounds_toArray, List.set_cons_zero, List.set_cons_succ]
    refine HT.take 8 (v := ?_) rfl (by kernel_rfl) (fun _ _ _ h => h) (Or.inl ⟨by rfl, ?_⟩) (by assumption) ?_
    rotate_left
    · intro W hSw; rw [← hS] at hSw; have hSw := show Bk W gm 175 #[.slice FA fs.length fc, .slice none 0 0, .pointer p0, .pointer p1, .pointer p2, .pointer p3, .pointer p4, .bool false, .string rel] from hSw; have sl := hSw.lt; have s0 := hSw.cell 0; have s1 := hSw.cell 1; have s2 := hSw.cell 2; have s3 := hSw.cell 3; have s4 := hSw.cell 4; have s5 := hSw.cell 5; have s6 := hSw.cell 6; have s7 := hSw.cell 7; have s8 := hSw.cell 8; clear hSw; simp at s0 s1 s2 s3 s4 s5 s6 s7 s8; go_simp; with_reducible rfl
    simp only [Act.put, List.setIfInBounds_toArray, List.set_cons_zero, List.set_cons_succ]
    refine HT.two 4 10 rfl rfl (by kernel_rfl) (by rfl) (by rfl) (fun K hK => ?_) (fun K hK => ?_)
    · go_simp
      refine (HE.out W.drew (below_drew Hst.out.1)).mono ?_
      rintro e w1 ⟨a, es, hpl, rfl, hp, hb1⟩
      have hb1 : Below W.heap.size W w1 := below_drew' hb1
      have hp : SAt (Fr W.heap.size w1) w1 .ref _ es := hp
      obtain ⟨b, nm, sc, A, n, c, B, m, d, r, rfl⟩ := hp.ref_form
      have hbw := Hst.out.1.trans (hb1.mono Hst.out.1.size)
      go_simp
      have hS1 : S w1 := by rw [← hS]; exact HB.out.below hbw hgm
      refine hK.out _ _ hS1 ?_
      clear hK
      refine HT.take 9 (v := ?_) rfl (by kernel_rfl) (fun _ _ _ h => h) (Or.inl ⟨by rfl, ?_⟩) (by assumption) ?_
      rotate_left
      · intro W hSw; go_simp; with_reducible rfl
      simp only [Act.put, List.setIfInBounds_toArray, List.set_cons_zero, List.set_cons_succ]
      refine HT.one 10 rfl (by kernel_rfl) (by rfl) (fun K hK => ?_)
      go_simp
      refine hK.out _ _ (by rw [← hS]; exact (HB.out.below hbw hgm).alloc _) ?_
      clear hK
      refine HT.done (by kernel_rfl) ?_
      simp only [List.drop_succ_cons, List.drop_zero]
      clear hS0 hS
      have hsz := hb1.size
      go_wp2_with fail
      go_meet
      refine ⟨w1.heap.size, a, b, nm, sc, A, n, c, B, m, d, r, hpl, rfl, ⟨hbw.alloc hbw.size _, (Hst.out.2.below hb1 hlt1).alloc _, Bk.new _ _ _, by omega⟩, (hp.keeps (Keeps.alloc _ _ fun x hx => hx.2)).mono fun b hb => ⟨by have := hb.1; omega, by have := hb.2; omega, by rw [World.size_alloc]; have := hb.2; omega⟩⟩
    · go_simp
      refine hK.out _ _ (by rw [← hS]; exact (HB.out.below Hst.out.1 hgm).alloc _) ?_
      clear hK
      refine HT.one 4 rfl (by kernel_rfl) (by rfl) (fun K hK => ?_)
      go_simp
      have hbA : Below W.heap.size W (W.drew.alloc (.cells #[.slice none 0 0, .bool false, .string ⟨#[]⟩, .string ⟨#[]⟩, .slice none 0 0, .slice none 0 0, .string ⟨#[]⟩, .string ⟨#[]⟩] 109)) := (below_drew (Below.refl _ _)).alloc (Nat.le_refl _) _
      refine (HE.out _ (Hst.out.1.trans (hbA.mono Hst.out.1.size))).mono ?_
      rintro e w1 ⟨a, es, hpl, rfl, hp, hb1⟩
      obtain ⟨b, nm, sc, A, n, c, B, m, d, r, rfl⟩ := hp.ref_form
      have hbW1 : Below W.heap.size W w1 := hbA.trans (hb1.mono hbA.size)
      have hbw := Hst.out.1.trans (hbW1.mono Hst.out.1.size)
      go_simp
      have hS1 : S w1 := by rw [← hS]; exact HB.out.below hbw hgm
      refine hK.out _ _ hS1 ?_
      clear hK
      refine HT.take 9 (v := ?_) rfl (by kernel_rfl) (fun _ _ _ h => h) (Or.inl ⟨by rfl, ?_⟩) (by assumption) ?_
      rotate_left
      · intro W hSw; go_simp; with_reducible rfl
      simp only [Act.put, List.setIfInBounds_toArray, List.set_cons_zero, List.set_cons_succ]
      refine HT.done (by kernel_rfl) ?_
      simp only [List.drop_succ_cons, List.drop_zero]
      clear hS0 hS
      have hg : Bk w1 W.heap.size 109 #[.slice none 0 0, .bool false, .string ⟨#[]⟩, .string ⟨#[]⟩, .slice none 0 0, .slice none 0 0, .string ⟨#[]⟩, .string ⟨#[]⟩] := (Bk.new W.drew _ _).below hb1 (by rw [World.size_alloc]; exact Nat.lt_succ_self _)
      have hgl := hg.lt
      have fz := hg.free
      have r0 := hg.cell 0
      have r1 := hg.cell 1
      have r2 := hg.cell 2
      have r3 := hg.cell 3
      have r4 := hg.cell 4
      have r5 := hg.cell 5
      have r6 := hg.cell 6
      have r7 := hg.cell 7
      simp at r0 r1 r2 r3 r4 r5 r6 r7
      have hs8 := set8_same (.slice none 0 0) (.bool b) (.string nm) (.string sc) (.slice A n c) (.slice B m d) (.string r) (.string rel) hg
      have hh8 := set8_heap w1 W.heap.size (.slice none 0 0) (.bool b) (.string nm) (.string sc) (.slice A n c) (.slice B m d) (.string r) (.string rel)
      have hb8 := set8_below (.slice none 0 0) (.bool b) (.string nm) (.string sc) (.slice A n c) (.slice B m d) (.string r) (.string rel) hbw Hst.out.1.size
      have hz8 := set8_size w1 W.heap.size (.slice none 0 0) (.bool b) (.string nm) (.string sc) (.slice A n c) (.slice B m d) (.string r) (.string rel)
      have hfin : QM w 109 109 #[.slice none 0 0, .bool false, .string ⟨#[]⟩, .string ⟨#[]⟩, .slice none 0 0, .slice none 0 0, .string ⟨#[]⟩, .string ⟨#[]⟩] #[.slice none 0 0, .bool b, .string nm, .string sc, .slice A n c, .slice B m d, .string r, .string rel] W.heap.size (set8 w1 W.heap.size (.slice none 0 0) (.bool b) (.string nm) (.string sc) (.slice A n c) (.slice B m d) (.string r) (.string rel)) :=
        ⟨hb8, (hh8 _ (by omega)).trans (Hst.out.2.below hbW1 hlt1), hs8, hlt1⟩
      have hfp : SAt (FrG w.heap.size W.heap.size (set8 w1 W.heap.size (.slice none 0 0) (.bool b) (.string nm) (.string sc) (.slice A n c) (.slice B m d) (.string r) (.string rel))) (set8 w1 W.heap.size (.slice none 0 0) (.bool b) (.string nm) (.string sc) (.slice A n c) (.slice B m d) (.string r) (.string rel)) .ref a [.bool b, .string nm, .string sc, .slice A n c, .slice B m d, .string r] := by
        have hlo : ∀ b, Fr (W.drew.alloc (.cells #[.slice none 0 0, .bool false, .string ⟨#[]⟩, .string ⟨#[]⟩, .slice none 0 0, .slice none 0 0, .string ⟨#[]⟩, .string ⟨#[]⟩] 109)).heap.size w1 b → W.heap.size + 1 ≤ b := fun b hb => by
          have := hb.1
          rw [World.size_alloc] at this
          exact this
        exact (hp.keeps fun b hb => hh8 b (by have := hlo b hb; omega)).mono fun b hb => ⟨by have := hlo b hb; omega, by have := hlo b hb; omega, by rw [hz8]; exact hb.2⟩
      have Hfin := hide (And.intro hfin (And.intro hfp hpl))
      clear hs8 hh8 hb8 hz8 hfin hfp hg hp hbA hb1 hpl hbW1 hbw
      go_wp2_with fail
      go_meet
      exact ⟨W.heap.size, a, b, nm, sc, A, n, c, B, m, d, r, Hfin.out.2.2, rfl, Hfin.out.1, Hfin.out.2.1⟩
  case rest =>
    obtain ⟨g, a, b, nm, sc, A, n, c, B, m, d, r, hpl, rfl, hq, hp⟩ := hcut
    clear Hst HE
    have hbm := HB.out.below hq.below hgm
    have q0 := hbm.cell 0
    simp at q0
    have hgml := hbm.lt
    have H2 := hide (And.intro hq (And.intro hp hpl))
    clear hq hp hbm hpl
    go_wp2_with fail
    go_loopw [21] (fun s W => FMInv w #[.slice none 0 0, .bool false, .string ⟨#[]⟩, .string ⟨#[]⟩, .slice none 0 0, .slice none 0 0, .string ⟨#[]⟩, .string ⟨#[]⟩] (fun out => #[out, .bool b, .string nm, .string sc, .slice A n c, .slice B m d, .string r, .string rel]) g wc.heap.size wc fs s W) (fun s _ => fs.length - (intOf s).toNat)
    case atStart => exact ⟨0, .slice none 0 0, [], [], rfl, Nat.zero_le _, rfl, H2.out.1, World.ownsRow_nil _ _ _ _, Cells.nil_, Keeps.refl _ _, Nat.le_refl _⟩
    case round =>
      obtain ⟨k, out, us, L, rfl, hk, hL, hq, hown, hus, hkp, hB⟩ := hrel
      by_cases hlt : k < fs.length
      · have hki0 : (0 : Int) ≤ (k : Int) := Int.natCast_nonneg _
        have hki1 : (k : Int) < (fs.length : Int) := by omega
        have hfk : fs[k]? = some fs[k] := List.getElem?_eq_getElem hlt
        have hx := H7.out.2.2.2 k _ hfk
        have hfo := HF.out fs[k] (List.getElem_mem hlt)
        have hsn : fs.take (k + 1) = fs.take k ++ [fs[k]] := List.take_succ_eq_append_getElem hlt
        generalize fs[k] = fx at *
        generalize hcs : (xs.drop (k * 8)).take 8 = fcs at hx
        obtain ⟨f0, f1, f2, f3, f4, f5, u, rfl, hu⟩ := hx.field_form
        obtain ⟨rb, ro, rfl, hF, hc⟩ := rown_at H7.out.2.2.1 hlt hcs
        have hkc0 := hc 0 _ rfl
        rw [Nat.add_zero] at hkc0
        have hkc1 := hc 1 _ rfl
        have hkc2 := hc 2 _ rfl
        have hkc3 := hc 3 _ rfl
        have hkc4 := hc 4 _ rfl
        have hkc5 := hc 5 _ rfl
        have hkc6 := hc 6 _ rfl
        have hkc7 := hc 7 _ rfl
        have ec := (bcell hq.below).1
        rw [← ec _ _ hF] at hkc0 hkc1 hkc2 hkc3 hkc4 hkc5 hkc6 hkc7
        have hrb : rb < w.heap.size := hF
        have hgl := hq.gb.lt
        have Hq := hide (And.intro hq (And.intro hown (And.intro hus (And.intro hkp (And.intro hB (And.intro hx (And.intro hfo (And.intro hsn (And.intro hL hcs)))))))))
        clear hq hown hus hkp hB hx hfo hsn hcs hc ec hfk hL
        obtain rfl | ⟨ti, ui, rfl⟩ := hu
        · go_wp2_with fail
          have hbA : Below wr.heap.size wr (wr.alloc (.cells #[.string f0, .pointer f1, .pointer f2, .pointer f3, .pointer f4, .pointer f5, .bool false, .nilIface] 210)) := (Below.refl _ _).alloc (Nat.le_refl _) _
          have hS0 : Bk (wr.alloc (.cells #[.string f0, .pointer f1, .pointer f2, .pointer f3, .pointer f4, .pointer f5, .bool false, .nilIface] 210)).drew wr.heap.size 210 #[.string f0, .pointer f1, .pointer f2, .pointer f3, .pointer f4, .pointer f5, .bool false, .nilIface] ∧ Bk (wr.alloc (.cells #[.string f0, .pointer f1, .pointer f2, .pointer f3, .pointer f4, .pointer f5, .bool false, .nilIface] 210)).drew g 109 #[out, .bool b, .string nm, .string sc, .slice A n c, .slice B m d, .string r, .string rel] := ⟨Bk.new _ _ _, Hq.out.1.gb.alloc _⟩
          obtain ⟨S, hS⟩ : ∃ S, (fun W => Bk W wr.heap.size 210 #[.string f0, .pointer f1, .pointer f2, .pointer f3, .pointer f4, .pointer f5, .bool false, .nilIface] ∧ Bk W g 109 #[out, .bool b, .string nm, .string sc, .slice A n c, .slice B m d, .string r, .string rel]) = S := ⟨_, rfl⟩
          have hS0 : S (wr.alloc (.cells #[.string f0, .pointer f1, .pointer f2, .pointer f3, .pointer f4, .pointer f5, .bool false, .nilIface] 210)).drew := by rw [← hS]; exact hS0
          refine wp_region_head 6 S (by rfl) (by kernel_rfl) ?_
          refine HT.take 0 (v := ?_) rfl (by kernel_rfl) (fun _ _ _ h => h) (Or.inl ⟨by rfl, ?_⟩) (by assumption) ?_
          rotate_left
          · intro W hSw; rw [← hS] at hSw; have hSw := show Bk W wr.heap.size 210 #[.string f0, .pointer f1, .pointer f2, .pointer f3, .pointer f4, .pointer f5, .bool false, .nilIface] ∧ Bk W g 109 #[out, .bool b, .string nm, .string sc, .slice A n c, .slice B m d, .string r, .string rel] from hSw; have y0 := hSw.2.cell 0; obtain ⟨hSw, -⟩ := hSw; have s0 := hSw.cell 0; have s1 := hSw.cell 1; have s2 := hSw.cell 2; have s3 := hSw.cell 3; have s4 := hSw.cell 4; have s5 := hSw.cell 5; have s6 := hSw.cell 6; have s7 := hSw.cell 7; clear hSw; simp at y0 s0 s1 s2 s3 s4 s5 s6 s7; go_simp; with_reducible rfl
          simp only [Act.put, List.setIfInBounds_toArray, List.set_cons_zero, List.set_cons_succ]
          refine HT.take 1 (v := ?_) rfl (by kernel_rfl) (fun _ _ _ h => h) (Or.inl ⟨by rfl, ?_⟩) (by assumption) ?_
          rotate_left
          · intro W hSw; rw [← hS] at hSw; have hSw := show Bk W wr.heap.size 210 #[.string f0, .pointer f1, .pointer f2, .pointer f3, .pointer f4, .pointer f5, .bool false, .nilIface] ∧ Bk W g 109 #[out, .bool b, .string nm, .string sc, .slice A n c, .slice B m d, .string r, .string rel] from hSw; have y0 := hSw.2.cell 0; obtain ⟨hSw, -⟩ := hSw; have s0 := hSw.cell 0; have s1 := hSw.cell 1; have s2 := hSw.cell 2; have s3 := hSw.cell 3; have s4 := hSw.cell 4; have s5 := hSw.cell 5; have s6 := hSw.cell 6; have s7 := hSw.cell 7; clear hSw; simp at y0 s0 s1 s2 s3 s4 s5 s6 s7; go_simp; with_reducible rfl
          simp only [Act.put, List.setIfInBounds_toArray, List.set_cons_zero, List.set_cons_succ]
          refine HT.take 2 (v := ?_) rfl (by kernel_rfl) (fun _ _ _ h => h) (Or.inl ⟨by rfl, ?_⟩) (by assumption) ?_
          rotate_left
          · intro W hSw; rw [← hS] at hSw; have hSw := show Bk W wr.heap.size 210 #[.string f0, .pointer f1, .pointer f2, .pointer f3, .pointer f4, .pointer f5, .bool false, .nilIface] ∧ Bk W g 109 #[out, .bool b, .string nm, .string sc, .slice A n c, .slice B m d, .string r, .string rel] from hSw; have y0 := hSw.2.cell 0; obtain ⟨hSw, -⟩ := hSw; have s0 := hSw.cell 0; have s1 := hSw.cell 1; have s2 := hSw.cell 2; have s3 := hSw.cell 3; have s4 := hSw.cell 4; have s5 := hSw.cell 5; have s6 := hSw.cell 6; have s7 := hSw.cell 7; clear hSw; simp at y0 s0 s1 s2 s3 s4 s5 s6 s7; go_simp; with_reducible rfl
          simp only [Act.put, List.setIfInBounds_toArray, List.set_cons_zero, List.set_cons_succ]
          refine HT.one 3 rfl (by kernel_rfl) (by rfl) (fun K hK => ?_)
          go_simp
          have hbw : Below w.heap.size w (wr.alloc (.cells #[.string f0, .pointer f1, .pointer f2, .pointer f3, .pointer f4, .pointer f5, .bool false, .nilIface] 210)).drew := below_drew (Hq.out.1.below.trans (hbA.mono Hq.out.1.below.size))
          refine (Hq.out.2.2.2.2.2.2.1 _ _ (Hq.out.2.2.2.2.2.1.at_ hbw)).mono ?_
          rintro e w1 ⟨ax, gs, hax, rfl, hp, hb1⟩
          have hb1' := hb1
          have hp : SAt (Fr wr.heap.size w1) w1 .field _ gs := hp.mono fun b hb => ⟨by have := hb.1; rw [World.size_drew, World.size_alloc] at this; omega, hb.2⟩
          have hb1 : Below wr.heap.size wr w1 := hbA.trans ((below_drew' hb1).mono hbA.size)
          obtain ⟨g0, g1, g2, g3, g4, g5, g6, g7, g8, g9, ga, gb, gd, ge, rfl⟩ := hp.field_form
          go_simp
          have hS1 : S w1 := by rw [← hS]; exact ⟨(Bk.new wr _ _).below (below_drew' hb1') (by simp), Hq.out.1.gb.below hb1 Hq.out.1.gb.lt⟩
          refine hK.out _ _ hS1 ?_
          clear hK
          refine HT.one 4 rfl (by kernel_rfl) (by rfl) (fun K hK => ?_)
          go_simp
          have hbL : Below wr.heap.size wr (w1.alloc (.cells #[.string g0, .bool g1, .string g2, .string g3, .slice g4 g5 g6, .slice g7 g8 g9, .string ga, .slice gb gd ge] 111)) := hb1.alloc hb1.size _
          refine hK.out _ _ (by rw [← hS]; exact ⟨((Bk.new wr _ _).below (below_drew' hb1') (by simp)).alloc _, Hq.out.1.gb.below hbL Hq.out.1.gb.lt⟩) ?_
          clear hK
          refine HT.one 5 rfl (by kernel_rfl) (by rfl) (fun K hK => ?_)
          have hownL := (ownsRow_below Hq.out.2.1 hb1 (Nat.le_refl _)).alloc (.cells #[.string g0, .bool g1, .string g2, .string g3, .slice g4 g5 g6, .slice g7 g8 g9, .string ga, .slice gb gd ge] 111)
          have hszL := hbL.size
          refine wp_append_row _ (.tmp 26) (.tmp 29) 107 rfl wc.heap.size 111 i9 _ 8 144 Try.underlying107 hi9 hz9 hs9 hb9 rfl (by omega) _ k us rfl hownL (fun _ => True) (some ⟨w1.heap.size, 0, none⟩) 1 1 [.string g0, .bool g1, .string g2, .string g3, .slice g4 g5 g6, .slice g7 g8 g9, .string ga, .slice gb gd ge] rfl (Row.of_bk (Bk.new w1 111 [.string g0, .bool g1, .string g2, .string g3, .slice g4 g5 g6, .slice g7 g8 g9, .string ga, .slice gb gd ge].toArray) rfl trivial) (by simp [Value.oneCell']) (by omega) (by omega) (by have := Hq.out.2.2.2.2.1; omega) ?_
          intro out' w2 hown2 hg2 hat2
          have hlo : ∀ k, out.ownBlock = some k → wc.heap.size ≤ k ∧ k < wr.heap.size := Hq.out.2.1.lt
          have hgw : g < wc.heap.size := H2.out.1.gb.lt
          have hq2 := (((Hq.out.1.call hbL).grown hg2 (fun k e => (hlo k e).1) hgw)).setC 0 out'
          simp at hq2
          have hcs := cells_step (Q := fun F w a cs => SAt F w .field a cs) (fun h k => h.keeps k) (fun h k => h.mono k) Hq.out.2.1 Hq.out.2.2.1 Hq.out.2.2.2.2.1 hp rfl hb1 hg2 hat2
          have hbk2 : Bk w2 wr.heap.size 210 #[.string f0, .pointer f1, .pointer f2, .pointer f3, .pointer f4, .pointer f5, .bool false, .nilIface] := (((Bk.new wr _ _).below (below_drew' hb1') (by simp)).alloc _).grown hg2 (fun e => by have := (hlo _ e.symm).2; omega)
          have hgb2 : Bk w2 g 109 #[out, .bool b, .string nm, .string sc, .slice A n c, .slice B m d, .string r, .string rel] := (Hq.out.1.gb.below hbL Hq.out.1.gb.lt).grown hg2 (fun e => by have := (hlo _ e.symm).1; omega)
          have hkp2 : Keeps (FrG w.heap.size g wc) wc (w2.setCell ⟨g, 0, none⟩ out') := by
            intro b hb
            have hbB := Hq.out.2.2.2.2.1
            have hb3 := hb.2.2
            rw [Below.heap_setCell _ _ _ _ hb.2.1, hg2.block b (by omega) (fun e => by have := (hlo _ e.symm).1; omega), hbL.block b (by omega)]
            exact Hq.out.2.2.2.1 b hb
          have hsz2 : wc.heap.size ≤ (w2.setCell ⟨g, 0, none⟩ out').heap.size := by
            have := hcs.2
            simpa using this
          have hcs2 : Cells 8 (SAt (FrX wc.heap.size (w2.setCell ⟨g, 0, none⟩ out') out') (w2.setCell ⟨g, 0, none⟩ out') .field) (L ++ [ax]) (us ++ [.string g0, .bool g1, .string g2, .string g3, .slice g4 g5 g6, .slice g7 g8 g9, .string ga, .slice gb gd ge]) := by
            refine hcs.1.mono fun a cs h => (h.keeps (Keeps.setCell _ _ _ fun x hx => ?_)).mono fun b hb => ⟨hb.1, by simpa using hb.2.1, hb.2.2⟩
            have := hx.1
            simp only
            omega
          have hLn : (L ++ [ax]).map Ytekaainjpddklaa.S.plain = fs.take (k + 1) := by rw [Hq.out.2.2.2.2.2.2.2.1, List.map_append, Hq.out.2.2.2.2.2.2.2.2.1, List.map_cons, List.map_nil, hax]
          have hown3 := ownsRow_setCell_below hown2 (a := ⟨g, 0, none⟩) hgw out'
          have hgl2 := hgb2.lt
          have fz2 := hgb2.free
          have yy := hgb2.cell 0
          simp at yy
          have Hfin := hide (And.intro hq2 (And.intro hown3 (And.intro hcs2 (And.intro hkp2 (And.intro hsz2 hLn)))))
          obtain ⟨oA, oc, rfl, _, _⟩ := own_form hown2
          go_simp
          refine hK.out _ _ (by rw [← hS]; exact ⟨hbk2, hgb2⟩) ?_
          clear hK
          refine HT.done (by kernel_rfl) ?_
          simp only [List.drop_succ_cons, List.drop_zero]
          clear hS0 hS hS1 hbL hownL hszL hown2 hg2 hat2 hlo hq2 hcs hbk2 hgb2 hkp2 hsz2 hcs2 hown3 hp hb1 hb1' hbw hbA hLn hax
          go_wp2_with fail
          exact ⟨⟨k + 1, _, _, _, by go_num, by omega, Hfin.out.2.2.2.2.2, Hfin.out.1, Hfin.out.2.1, Hfin.out.2.2.1, Hfin.out.2.2.2.1, Hfin.out.2.2.2.2.1⟩, by simp [intOf]; omega⟩
        · go_wp2_with fail
          have hbA : Below wr.heap.size wr (wr.alloc (.cells #[.string f0, .pointer f1, .pointer f2, .pointer f3, .pointer f4, .pointer f5, .bool false, .iface ti ui] 210)) := (Below.refl _ _).alloc (Nat.le_refl _) _
          have hS0 : Bk (wr.alloc (.cells #[.string f0, .pointer f1, .pointer f2, .pointer f3, .pointer f4, .pointer f5, .bool false, .iface ti ui] 210)).drew wr.heap.size 210 #[.string f0, .pointer f1, .pointer f2, .pointer f3, .pointer f4, .pointer f5, .bool false, .iface ti ui] ∧ Bk (wr.alloc (.cells #[.string f0, .pointer f1, .pointer f2, .pointer f3, .pointer f4, .pointer f5, .bool false, .iface ti ui] 210)).drew g 109 #[out, .bool b, .string nm, .string sc, .slice A n c, .slice B m d, .string r, .string rel] := ⟨Bk.new _ _ _, Hq.out.1.gb.alloc _⟩
          obtain ⟨S, hS⟩ : ∃ S, (fun W => Bk W wr.heap.size 210 #[.string f0, .pointer f1, .pointer f2, .pointer f3, .pointer f4, .pointer f5, .bool false, .iface ti ui] ∧ Bk W g 109 #[out, .bool b, .string nm, .string sc, .slice A n c, .slice B m d, .string r, .string rel]) = S := ⟨_, rfl⟩
          have hS0 : S (wr.alloc (.cells #[.string f0, .pointer f1, .pointer f2, .pointer f3, .pointer f4, .pointer f5, .bool false, .iface ti ui] 210)).drew := by rw [← hS]; exact hS0
          refine wp_region_head 6 S (by rfl) (by kernel_rfl) ?_
          refine HT.take 0 (v := ?_) rfl (by kernel_rfl) (fun _ _ _ h => h) (Or.inl ⟨by rfl, ?_⟩) (by assumption) ?_
          rotate_left
          · intro W hSw; rw [← hS] at hSw; have hSw := show Bk W wr.heap.size 210 #[.string f0, .pointer f1, .pointer f2, .pointer f3, .pointer f4, .pointer f5, .bool false, .iface ti ui] ∧ Bk W g 109 #[out, .bool b, .string nm, .string sc, .slice A n c, .slice B m d, .string r, .string rel] from hSw; have y0 := hSw.2.cell 0; obtain ⟨hSw, -⟩ := hSw; have s0 := hSw.cell 0; have s1 := hSw.cell 1; have s2 := hSw.cell 2; have s3 := hSw.cell 3; have s4 := hSw.cell 4; have s5 := hSw.cell 5; have s6 := hSw.cell 6; have s7 := hSw.cell 7; clear hSw; simp at y0 s0 s1 s2 s3 s4 s5 s6 s7; go_simp; with_reducible rfl
          simp only [Act.put, List.setIfInBounds_toArray, List.set_cons_zero, List.set_cons_succ]
          refine HT.take 1 (v := ?_) rfl (by kernel_rfl) (fun _ _ _ h => h) (Or.inl ⟨by rfl, ?_⟩) (by assumption) ?_
          rotate_left
          · intro W hSw; rw [← hS] at hSw; have hSw := show Bk W wr.heap.size 210 #[.string f0, .pointer f1, .pointer f2, .pointer f3, .pointer f4, .pointer f5, .bool false, .iface ti ui] ∧ Bk W g 109 #[out, .bool b, .string nm, .string sc, .slice A n c, .slice B m d, .string r, .string rel] from hSw; have y0 := hSw.2.cell 0; obtain ⟨hSw, -⟩ := hSw; have s0 := hSw.cell 0; have s1 := hSw.cell 1; have s2 := hSw.cell 2; have s3 := hSw.cell 3; have s4 := hSw.cell 4; have s5 := hSw.cell 5; have s6 := hSw.cell 6; have s7 := hSw.cell 7; clear hSw; simp at y0 s0 s1 s2 s3 s4 s5 s6 s7; go_simp; with_reducible rfl
          simp only [Act.put, List.setIfInBounds_toArray, List.set_cons_zero, List.set_cons_succ]
          refine HT.take 2 (v := ?_) rfl (by kernel_rfl) (fun _ _ _ h => h) (Or.inl ⟨by rfl, ?_⟩) (by assumption) ?_
          rotate_left
          · intro W hSw; rw [← hS] at hSw; have hSw := show Bk W wr.heap.size 210 #[.string f0, .pointer f1, .pointer f2, .pointer f3, .pointer f4, .pointer f5, .bool false, .iface ti ui] ∧ Bk W g 109 #[out, .bool b, .string nm, .string sc, .slice A n c, .slice B m d, .string r, .string rel] from hSw; have y0 := hSw.2.cell 0; obtain ⟨hSw, -⟩ := hSw; have s0 := hSw.cell 0; have s1 := hSw.cell 1; have s2 := hSw.cell 2; have s3 := hSw.cell 3; have s4 := hSw.cell 4; have s5 := hSw.cell 5; have s6 := hSw.cell 6; have s7 := hSw.cell 7; clear hSw; simp at y0 s0 s1 s2 s3 s4 s5 s6 s7; go_simp; with_reducible rfl
          simp only [Act.put, List.setIfInBounds_toArray, List.set_cons_zero, List.set_cons_succ]
          refine HT.one 3 rfl (by kernel_rfl) (by rfl) (fun K hK => ?_)
          go_simp
          have hbw : Below w.heap.size w (wr.alloc (.cells #[.string f0, .pointer f1, .pointer f2, .pointer f3, .pointer f4, .pointer f5, .bool false, .iface ti ui] 210)).drew := below_drew (Hq.out.1.below.trans (hbA.mono Hq.out.1.below.size))
          refine (Hq.out.2.2.2.2.2.2.1 _ _ (Hq.out.2.2.2.2.2.1.at_ hbw)).mono ?_
          rintro e w1 ⟨ax, gs, hax, rfl, hp, hb1⟩
          have hb1' := hb1
          have hp : SAt (Fr wr.heap.size w1) w1 .field _ gs := hp.mono fun b hb => ⟨by have := hb.1; rw [World.size_drew, World.size_alloc] at this; omega, hb.2⟩
          have hb1 : Below wr.heap.size wr w1 := hbA.trans ((below_drew' hb1).mono hbA.size)
          obtain ⟨g0, g1, g2, g3, g4, g5, g6, g7, g8, g9, ga, gb, gd, ge, rfl⟩ := hp.field_form
          go_simp
          have hS1 : S w1 := by rw [← hS]; exact ⟨(Bk.new wr _ _).below (below_drew' hb1') (by simp), Hq.out.1.gb.below hb1 Hq.out.1.gb.lt⟩
          refine hK.out _ _ hS1 ?_
          clear hK
          refine HT.one 4 rfl (by kernel_rfl) (by rfl) (fun K hK => ?_)
          go_simp
          have hbL : Below wr.heap.size wr (w1.alloc (.cells #[.string g0, .bool g1, .string g2, .string g3, .slice g4 g5 g6, .slice g7 g8 g9, .string ga, .slice gb gd ge] 111)) := hb1.alloc hb1.size _
          refine hK.out _ _ (by rw [← hS]; exact ⟨((Bk.new wr _ _).below (below_drew' hb1') (by simp)).alloc _, Hq.out.1.gb.below hbL Hq.out.1.gb.lt⟩) ?_
          clear hK
          refine HT.one 5 rfl (by kernel_rfl) (by rfl) (fun K hK => ?_)
          have hownL := (ownsRow_below Hq.out.2.1 hb1 (Nat.le_refl _)).alloc (.cells #[.string g0, .bool g1, .string g2, .string g3, .slice g4 g5 g6, .slice g7 g8 g9, .string ga, .slice gb gd ge] 111)
          have hszL := hbL.size
          refine wp_append_row _ (.tmp 26) (.tmp 29) 107 rfl wc.heap.size 111 i9 _ 8 144 Try.underlying107 hi9 hz9 hs9 hb9 rfl (by omega) _ k us rfl hownL (fun _ => True) (some ⟨w1.heap.size, 0, none⟩) 1 1 [.string g0, .bool g1, .string g2, .string g3, .slice g4 g5 g6, .slice g7 g8 g9, .string ga, .slice gb gd ge] rfl (Row.of_bk (Bk.new w1 111 [.string g0, .bool g1, .string g2, .string g3, .slice g4 g5 g6, .slice g7 g8 g9, .string ga, .slice gb gd ge].toArray) rfl trivial) (by simp [Value.oneCell']) (by omega) (by omega) (by have := Hq.out.2.2.2.2.1; omega) ?_
          intro out' w2 hown2 hg2 hat2
          have hlo : ∀ k, out.ownBlock = some k → wc.heap.size ≤ k ∧ k < wr.heap.size := Hq.out.2.1.lt
          have hgw : g < wc.heap.size := H2.out.1.gb.lt
          have hq2 := (((Hq.out.1.call hbL).grown hg2 (fun k e => (hlo k e).1) hgw)).setC 0 out'
          simp at hq2
          have hcs := cells_step (Q := fun F w a cs => SAt F w .field a cs) (fun h k => h.keeps k) (fun h k => h.mono k) Hq.out.2.1 Hq.out.2.2.1 Hq.out.2.2.2.2.1 hp rfl hb1 hg2 hat2
          have hbk2 : Bk w2 wr.heap.size 210 #[.string f0, .pointer f1, .pointer f2, .pointer f3, .pointer f4, .pointer f5, .bool false, .iface ti ui] := (((Bk.new wr _ _).below (below_drew' hb1') (by simp)).alloc _).grown hg2 (fun e => by have := (hlo _ e.symm).2; omega)
          have hgb2 : Bk w2 g 109 #[out, .bool b, .string nm, .string sc, .slice A n c, .slice B m d, .string r, .string rel] := (Hq.out.1.gb.below hbL Hq.out.1.gb.lt).grown hg2 (fun e => by have := (hlo _ e.symm).1; omega)
          have hkp2 : Keeps (FrG w.heap.size g wc) wc (w2.setCell ⟨g, 0, none⟩ out') := by
            intro b hb
            have hbB := Hq.out.2.2.2.2.1
            have hb3 := hb.2.2
            rw [Below.heap_setCell _ _ _ _ hb.2.1, hg2.block b (by omega) (fun e => by have := (hlo _ e.symm).1; omega), hbL.block b (by omega)]
            exact Hq.out.2.2.2.1 b hb
          have hsz2 : wc.heap.size ≤ (w2.setCell ⟨g, 0, none⟩ out').heap.size := by
            have := hcs.2
            simpa using this
          have hcs2 : Cells 8 (SAt (FrX wc.heap.size (w2.setCell ⟨g, 0, none⟩ out') out') (w2.setCell ⟨g, 0, none⟩ out') .field) (L ++ [ax]) (us ++ [.string g0, .bool g1, .string g2, .string g3, .slice g4 g5 g6, .slice g7 g8 g9, .string ga, .slice gb gd ge]) := by
            refine hcs.1.mono fun a cs h => (h.keeps (Keeps.setCell _ _ _ fun x hx => ?_)).mono fun b hb => ⟨hb.1, by simpa using hb.2.1, hb.2.2⟩
            have := hx.1
            simp only
            omega
          have hLn : (L ++ [ax]).map Ytekaainjpddklaa.S.plain = fs.take (k + 1) := by rw [Hq.out.2.2.2.2.2.2.2.1, List.map_append, Hq.out.2.2.2.2.2.2.2.2.1, List.map_cons, List.map_nil, hax]
          have hown3 := ownsRow_setCell_below hown2 (a := ⟨g, 0, none⟩) hgw out'
          have hgl2 := hgb2.lt
          have fz2 := hgb2.free
          have yy := hgb2.cell 0
          simp at yy
          have Hfin := hide (And.intro hq2 (And.intro hown3 (And.intro hcs2 (And.intro hkp2 (And.intro hsz2 hLn)))))
          obtain ⟨oA, oc, rfl, _, _⟩ := own_form hown2
          go_simp
          refine hK.out _ _ (by rw [← hS]; exact ⟨hbk2, hgb2⟩) ?_
          clear hK
          refine HT.done (by kernel_rfl) ?_
          simp only [List.drop_succ_cons, List.drop_zero]
          clear hS0 hS hS1 hbL hownL hszL hown2 hg2 hat2 hlo hq2 hcs hbk2 hgb2 hkp2 hsz2 hcs2 hown3 hp hb1 hb1' hbw hbA hLn hax
          go_wp2_with fail
          exact ⟨⟨k + 1, _, _, _, by go_num, by omega, Hfin.out.2.2.2.2.2, Hfin.out.1, Hfin.out.2.1, Hfin.out.2.2.1, Hfin.out.2.2.2.1, Hfin.out.2.2.2.2.1⟩, by simp [intOf]; omega⟩
      · have hke : k = fs.length := by omega
        subst hke
        have hki1 : ¬ ((fs.length : Nat) : Int) < (fs.length : Int) := by omega
        rw [List.take_of_length_le (Nat.le_refl _)] at hL
        have hLl : L.length = fs.length := by rw [← hL, List.length_map]
        obtain ⟨oA, oc, rfl, hc1, hc2⟩ := own_form hown
        have hlt := hown.lt
        have hgw : g < wc.heap.size := H2.out.1.gb.lt
        have hqlt := hq.lt
        have hv : SAt (FrN w.heap.size w.heap.size wr) wr .map (.map L a rel) [.slice oA fs.length oc, .bool b, .string nm, .string sc, .slice A n c, .slice B m d, .string r, .string rel] := by
          have h0 := SAt.map (F := FrN w.heap.size w.heap.size wr) (w := wr) (fs := L) (e := a) (rel := rel) (A := oA) (c := oc) (xs := us) (by rw [hLl]; exact H7.out.2.1) (by rw [hLl]; exact hc1) hc2
            (by rw [hLl]; exact Row.of_own hown fun b hb => ⟨by have := (hlt b hb).1; omega, by have := (hlt b hb).1; omega, (hlt b hb).2⟩)
            (fun i x hi => (hus.2 i x hi).mono fun b hb => ⟨by have := hb.1; omega, by have := hb.1; omega, hb.2.1⟩)
            ((H2.out.2.1.keeps hkp).mono fun b hb => ⟨by have := hb.1; omega, by have := hb.1; omega, by have := hb.2.2; omega⟩) H7.out.1
          rw [hLl] at h0
          exact h0
        have hpl : (Ytekaainjpddklaa.S.map L a rel).plain = .map fs t rel := by rw [Ytekaainjpddklaa.S.plain_map, hL, H2.out.2.2]
        have hgl := hq.gb.lt
        have hgl1 := hq.b.lt
        have fzb := hq.b.free
        have k0 := hq.gb.cell 0
        have r0 := hq.b.cell 0
        have k1 := hq.gb.cell 1
        have r1 := hq.b.cell 1
        have k2 := hq.gb.cell 2
        have r2 := hq.b.cell 2
        have k3 := hq.gb.cell 3
        have r3 := hq.b.cell 3
        have k4 := hq.gb.cell 4
        have r4 := hq.b.cell 4
        have k5 := hq.gb.cell 5
        have r5 := hq.b.cell 5
        have k6 := hq.gb.cell 6
        have r6 := hq.b.cell 6
        have k7 := hq.gb.cell 7
        have r7 := hq.b.cell 7
        simp at k0 k1 k2 k3 k4 k5 k6 k7 r0 r1 r2 r3 r4 r5 r6 r7
        have H3 := hide (And.intro hq (And.intro hv hpl))
        clear hq hown hus hkp hB hlt hc1 hc2 hv hpl hL hLl
        go_wp2
        exact ret_IMap rfl _ H3.out.2.2 (by omega) H3.out.1.b H3.out.1.below H3.out.2.1 rfl

end Go.Proofs.Ytekaainjpddklaa

/-!
  impl.fromAtom, of all types; impl.fromRef.
-/

namespace Go.Proofs.Ytekaainjpddklaa
open Go.RowKit
attribute [local go_sem] run_store_float

section
variable {F G : Nat → Prop} {w w' : World}
/-- a slice with the part of a type, or none -/
def SlcP (F : Nat → Prop) (w : World) (k : Ytekaainjpddklaa.K) (o : Option P) (v : Value) : Prop := ∃ (os : Option Ytekaainjpddklaa.S) (A : Option Addr) (n c : Nat) (xs : List Value), v = .slice A n c ∧ os.map Ytekaainjpddklaa.S.plain = o ∧ n * 144 ≤ R47 ∧ n ≤ c ∧ c ≤ maxLen ∧ (n = 0 ↔ os = none) ∧ Row F w 8 A n xs ∧ ∀ x, os = some x → SAt F w k x (xs.take 8)
theorem SlcP.none_ {k : Ytekaainjpddklaa.K} : SlcP F w k none (.slice none 0 0) := ⟨none, none, 0, 0, [], rfl, rfl, by decide, Nat.le_refl _, by decide, by simp, Row.nil_, by simp⟩
theorem SlcP.some_ {k : Ytekaainjpddklaa.K} {x : Ytekaainjpddklaa.S} {p : P} {cs : List Value} {g : Nat} {t : TypeId} (hF : F g) (hB : Bk w g t cs.toArray) (hl : cs.length = 8) (h : SAt F w k x cs) (hp : x.plain = p) : SlcP F w k (some p) (.slice (some ⟨g, 0, none⟩) 1 1) :=
  ⟨some x, _, 1, 1, cs, rfl, by rw [Option.map_some, hp], by decide, Nat.le_refl _, by decide, by simp, Row.of_bk hB hl hF, fun y e => by cases e; rw [List.take_of_length_le (by omega)]; exact h⟩
theorem SlcP.keeps {k : Ytekaainjpddklaa.K} {o : Option P} {v : Value} (h : SlcP F w k o v) (kp : Keeps F w w') : SlcP F w' k o v := by
  obtain ⟨os, A, n, c, xs, h1, h2, h3, h4, h5, h6, h7, h8⟩ := h
  exact ⟨os, A, n, c, xs, h1, h2, h3, h4, h5, h6, h7.keeps kp, fun x e => (h8 x e).keeps kp⟩
theorem SlcP.mono {k : Ytekaainjpddklaa.K} {o : Option P} {v : Value} (h : SlcP F w k o v) (kp : ∀ b, F b → G b) : SlcP G w k o v := by
  obtain ⟨os, A, n, c, xs, h1, h2, h3, h4, h5, h6, h7, h8⟩ := h
  exact ⟨os, A, n, c, xs, h1, h2, h3, h4, h5, h6, h7.mono kp, fun x e => (h8 x e).mono kp⟩
theorem SlcP.form {k : Ytekaainjpddklaa.K} {o : Option P} {v : Value} (h : SlcP F w k o v) : ∃ (A : Option Addr) (n c : Nat), v = .slice A n c := by
  obtain ⟨os, A, n, c, xs, h1, -⟩ := h
  exact ⟨A, n, c, h1⟩
theorem SAt.atom_of {s0 : ByteArray} {sc : Option ByteArray} {l m : Option P} {v1 v2 : Value} (h0 : s0.size ≤ R47) (hs : nz s0 = sc) (h1 : SlcP F w .list l v1) (h2 : SlcP F w .map m v2) : ∃ s : Ytekaainjpddklaa.S, s.plain = .atom sc l m ∧ SAt F w .atom s [.string s0, v1, v2] := by
  obtain ⟨os, A, n, c, xs, rfl, a2, a3, a4, a5, a6, a7, a8⟩ := h1
  obtain ⟨os', A', n', c', xs', rfl, b2, b3, b4, b5, b6, b7, b8⟩ := h2
  exact ⟨.atom s0 os os', by rw [Ytekaainjpddklaa.S.plain_atom, hs, a2, b2], .atom h0 a3 a4 a5 b3 b4 b5 a6 b6 a7 b7 a8 b8⟩
end

set_option maxRecDepth 100000 in
set_option maxHeartbeats 4000000 in
theorem fromAtom_of {sc : Option ByteArray} {l m : Option P} (hl : ∀ e rel keys, l = some (.list e rel keys) → FromRefOK e) (hm : ∀ x, m = some x → FromMapOK x) : FromAtomOK (.atom sc l m) := by
  intro w cs h
  cases h with
  | @atom _ _ _ v0 v1 v2 o1 o2 h0 h1 h2 h3 h4 h5 h6 h7 =>
  obtain ⟨p0, rfl⟩ := h1.form
  obtain ⟨p1, rfl⟩ := h2.form
  obtain ⟨p2, rfl⟩ := h3.form
  obtain ⟨i9, hi9, hz9, hs9, hb9⟩ := info_parts str_info
  have H1 := hide (And.intro h1 h0)
  have HL := hide (And.intro h2 (And.intro h4 (And.intro h6 hl)))
  have HM := hide (And.intro h3 (And.intro h5 (And.intro h7 hm)))
  clear h0 h1 h2 h3 h4 h5 h6 h7 hl hm
  go_enter Try.func65, Try.ntmps65
  go_upto_region 2 with fail
  have st := Q3.made w 92 38 38 #[.pointer p0, .pointer p1, .pointer p2] #[.string ⟨#[]⟩, .slice none 0 0, .slice none 0 0] #[.string ⟨#[]⟩, .slice none 0 0, .slice none 0 0]
  generalize World.alloc (World.alloc (World.alloc w _) _) _ = W at st ⊢
  have hgl := st.c.lt
  have hgl0 := st.a.lt
  have hgl1 := st.b.lt
  have fz := st.c.free
  have q0 := st.a.cell 0
  have q1 := st.a.cell 1
  have q2 := st.a.cell 2
  have k0 := st.c.cell 0
  have k1 := st.c.cell 1
  have k2 := st.c.cell 2
  simp at q0 q1 q2 k0 k1 k2
  go_upto_if 7 with fail
  go_cut [3] (fun s wx => ∃ s0, s = .pointer (some ⟨w.heap.size + 1 + 1, 0, none⟩) ∧ Q3 w 92 38 38 #[.pointer p0, .pointer p1, .pointer p2] #[.string ⟨#[]⟩, .slice none 0 0, .slice none 0 0] #[.string s0, .slice none 0 0, .slice none 0 0] wx ∧ nz s0 = sc ∧ s0.size ≤ R47)
  case first =>
    rcases H1.out.1 with ⟨e1, e2⟩ | ⟨s0, gn, e1, e2, hF, hB, hsz⟩
    · cases e2
      have H2 := hide (And.intro st e1)
      clear st e1
      go_wp2_with fail
      go_meet
      exact ⟨⟨#[]⟩, rfl, H2.out.1, by rw [H2.out.2]; rfl, by simp [ByteArray.size]⟩
    · cases e2
      have hrn : ¬ s0 = ⟨#[]⟩ := fun e => H1.out.2 (by rw [e1, e])
      have hgn : gn < w.heap.size := hF
      have hsz' : s0.size ≤ 140737488351232 := hsz
      have qn := (hB.below st.below hgn).cell 0
      simp at qn
      have st2 := st.setC 0 (.string s0)
      simp at st2
      have H2 := hide (And.intro st2 (And.intro e1 (And.intro hsz hrn)))
      clear st st2 e1 hsz hrn hB hF
      go_wp2_with fail
      go_meet
      exact ⟨s0, rfl, H2.out.1, by rw [H2.out.2.1]; exact nz_ne H2.out.2.2.2, H2.out.2.2.1⟩
  case rest =>
    obtain ⟨s0, rfl, st, hs0, hs47⟩ := hcut
    have H0 := hide (And.intro hs0 hs47)
    clear hgl hgl0 hgl1 fz q0 q1 q2 k0 k1 k2 hs0 hs47
    have hgl := st.c.lt
    have hgl0 := st.a.lt
    have hgl1 := st.b.lt
    have fz := st.c.free
    have q0 := st.a.cell 0
    have q1 := st.a.cell 1
    have q2 := st.a.cell 2
    have k0 := st.c.cell 0
    have k1 := st.c.cell 1
    have k2 := st.c.cell 2
    simp at q0 q1 q2 k0 k1 k2
    go_upto_if 15 with fail
    go_cut [3] (fun s wx => ∃ v1, s = .pointer (some ⟨w.heap.size + 1 + 1, 0, none⟩) ∧ Q3 w 92 38 38 #[.pointer p0, .pointer p1, .pointer p2] #[.string ⟨#[]⟩, .slice none 0 0, .slice none 0 0] #[.string s0, v1, .slice none 0 0] wx ∧ SlcP (FrA (w.heap.size + 1 + 1) wx) wx .list l v1)
    case first =>
      rcases HL.out.1 with ⟨e1, e2⟩ | ⟨ls, gl, e1, e2, hF, hB⟩
      · cases e2
        have hl := HL.out.2.1.2 e1
        have H2 := hide st
        clear st
        go_wp2_with fail
        go_meet
        exact ⟨.slice none 0 0, rfl, H2.out, by rw [hl]; exact SlcP.none_⟩
      · cases e2
        obtain ⟨x, hx⟩ : ∃ x, l = some x := by
          cases hc : l with
          | none => have := HL.out.2.1.1 hc; rw [e1] at this; cases this
          | some x => exact ⟨x, rfl⟩
        have hp := HL.out.2.2.1 x ls hx e1
        cases hp with
        | @list e rel keys c0 c1 c2 c3 c4 c5 KA kc g1 g2 g3 g4 g5 g6 g7 =>
        have hok := HL.out.2.2.2 e rel keys hx
        have HE := hide fun (W : World) (hb : Below w.heap.size w W) => hok W _ (g1.at_ hb)
        obtain ⟨x0, x1, x2, x3, x4, ex⟩ := g1.ref_form
        simp only [List.cons.injEq, and_true] at ex
        obtain ⟨rfl, rfl, rfl, rfl, rfl, rfl⟩ := ex
        have hgn : gl < w.heap.size := hF
        have hbl : Bk w gl 167 #[.pointer x0, .pointer x1, .pointer x2, .pointer x3, .pointer x4, .bool false, .string rel, .slice KA keys.length kc] := hB
        have HB := hide hbl
        have g2' : rel.size ≤ 140737488351232 := g2
        have g3' : keys.length * 16 ≤ 140737488351232 := g3
        have HK := hide (And.intro g7 (And.intro g4 (And.intro g2 (And.intro g3 hx))))
        have Hst := hide st
        clear st g1 g2 g3 g4 g7 hok hB hF hbl hx e1
        go_upto_region 5 with fail
        have hS0 : Bk wc.drew w.heap.size 92 #[.pointer p0, .pointer (some ⟨gl, 0, none⟩), .pointer p2] ∧ Bk wc.drew gl 167 #[.pointer x0, .pointer x1, .pointer x2, .pointer x3, .pointer x4, .bool false, .string rel, .slice KA keys.length kc] := ⟨Hst.out.a, HB.out.below (below_drew Hst.out.below) hgn⟩
        obtain ⟨S, hS⟩ : ∃ S, (fun W => Bk W w.heap.size 92 #[.pointer p0, .pointer (some ⟨gl, 0, none⟩), .pointer p2] ∧ Bk W gl 167 #[.pointer x0, .pointer x1, .pointer x2, .pointer x3, .pointer x4, .bool false, .string rel, .slice KA keys.length kc]) = S := ⟨_, rfl⟩
        have hS0 : S wc.drew := by rw [← hS]; exact hS0
        refine wp_region_head 19 S (by rfl) (by kernel_rfl) ?_
        refine HT.take 0 (v := ?_) rfl (by kernel_rfl) (fun _ _ _ h => h) (Or.inl ⟨by rfl, ?_⟩) (by assumption) ?_
        rotate_left
        · intro W hSw; rw [← hS] at hSw; have hSw := show Bk W w.heap.size 92 #[.pointer p0, .pointer (some ⟨gl, 0, none⟩), .pointer p2] ∧ Bk W gl 167 #[.pointer x0, .pointer x1, .pointer x2, .pointer x3, .pointer x4, .bool false, .string rel, .slice KA keys.length kc] from hSw; have sl := hSw.2.lt; have s0 := hSw.1.cell 0; have s1 := hSw.1.cell 1; have s2 := hSw.1.cell 2; have t0 := hSw.2.cell 0; have t1 := hSw.2.cell 1; have t2 := hSw.2.cell 2; have t3 := hSw.2.cell 3; have t4 := hSw.2.cell 4; have t5 := hSw.2.cell 5; have t6 := hSw.2.cell 6; have t7 := hSw.2.cell 7; clear hSw; simp at s0 s1 s2 t0 t1 t2 t3 t4 t5 t6 t7; go_simp; with_reducible rfl
        simp only [Act.put, List.setIfInBounds_toArray, List.set_cons_zero, List.set_cons_succ]
        refine HT.take 1 (v := ?_) rfl (by kernel_rfl) (fun _ _ _ h => h) (Or.inl ⟨by rfl, ?_⟩) (by assumption) ?_
        rotate_left
        · intro W hSw; rw [← hS] at hSw; have hSw := show Bk W w.heap.size 92 #[.pointer p0, .pointer (some ⟨gl, 0, none⟩), .pointer p2] ∧ Bk W gl 167 #[.pointer x0, .pointer x1, .pointer x2, .pointer x3, .pointer x4, .bool false, .string rel, .slice KA keys.length kc] from hSw; have sl := hSw.2.lt; have s0 := hSw.1.cell 0; have s1 := hSw.1.cell 1; have s2 := hSw.1.cell 2; have t0 := hSw.2.cell 0; have t1 := hSw.2.cell 1; have t2 := hSw.2.cell 2; have t3 := hSw.2.cell 3; have t4 := hSw.2.cell 4; have t5 := hSw.2.cell 5; have t6 := hSw.2.cell 6; have t7 := hSw.2.cell 7; clear hSw; simp at s0 s1 s2 t0 t1 t2 t3 t4 t5 t6 t7; go_simp; with_reducible rfl
        simp only [Act.put, List.setIfInBounds_toArray, List.set_cons_zero, List.set_cons_succ]
        refine HT.take 2 (v := ?_) rfl (by kernel_rfl) (fun _ _ _ h => h) (Or.inl ⟨by rfl, ?_⟩) (by assumption) ?_
        rotate_left
        · intro W hSw; rw [← hS] at hSw; have hSw := show Bk W w.heap.size 92 #[.pointer p0, .pointer (some ⟨gl, 0, none⟩), .pointer p2] ∧ Bk W gl 167 #[.pointer x0, .pointer x1, .pointer x2, .pointer x3, .pointer x4, .bool false, .string rel, .slice KA keys.length kc] from hSw; have sl := hSw.2.lt; have s0 := hSw.1.cell 0; have s1 := hSw.1.cell 1; have s2 := hSw.1.cell 2; have t0 := hSw.2.cell 0; have t1 := hSw.2.cell 1; have t2 := hSw.2.cell 2; have t3 := hSw.2.cell 3; have t4 := hSw.2.cell 4; have t5 := hSw.2.cell 5; have t6 := hSw.2.cell 6; have t7 := hSw.2.cell 7; clear hSw; simp at s0 s1 s2 t0 t1 t2 t3 t4 t5 t6 t7; go_simp; with_reducible rfl
        simp only [Act.put, List.setIfInBounds_toArray, List.set_cons_zero, List.set_cons_succ]
        refine HT.take 3 (v := ?_) rfl (by kernel_rfl) (fun _ _ _ h => h) (Or.inl ⟨by rfl, ?_⟩) (by assumption) ?_
        rotate_left
        · intro W hSw; rw [← hS] at hSw; have hSw := show Bk W w.heap.size 92 #[.pointer p0, .pointer (some ⟨gl, 0, none⟩), .pointer p2] ∧ Bk W gl 167 #[.pointer x0, .pointer x1, .pointer x2, .pointer x3, .pointer x4, .bool false, .string rel, .slice KA keys.length kc] from hSw; have sl := hSw.2.lt; have s0 := hSw.1.cell 0; have s1 := hSw.1.cell 1; have s2 := hSw.1.cell 2; have t0 := hSw.2.cell 0; have t1 := hSw.2.cell 1; have t2 := hSw.2.cell 2; have t3 := hSw.2.cell 3; have t4 := hSw.2.cell 4; have t5 := hSw.2.cell 5; have t6 := hSw.2.cell 6; have t7 := hSw.2.cell 7; clear hSw; simp at s0 s1 s2 t0 t1 t2 t3 t4 t5 t6 t7; go_simp; with_reducible rfl
        simp only [Act.put, List.setIfInBounds_toArray, List.set_cons_zero, List.set_cons_succ]
        refine HT.take 4 (v := ?_) rfl (by kernel_rfl) (fun _ _ _ h => h) (Or.inl ⟨by rfl, ?_⟩) (by assumption) ?_
        rotate_left
        · intro W hSw; rw [← hS] at hSw; have hSw := show Bk W w.heap.size 92 #[.pointer p0, .pointer (some ⟨gl, 0, none⟩), .pointer p2] ∧ Bk W gl 167 #[.pointer x0, .pointer x1, .pointer x2, .pointer x3, .pointer x4, .bool false, .string rel, .slice KA keys.length kc] from hSw; have sl := hSw.2.lt; have s0 := hSw.1.cell 0; have s1 := hSw.1.cell 1; have s2 := hSw.1.cell 2; have t0 := hSw.2.cell 0; have t1 := hSw.2.cell 1; have t2 := hSw.2.cell 2; have t3 := hSw.2.cell 3; have t4 := hSw.2.cell 4; have t5 := hSw.2.cell 5; have t6 := hSw.2.cell 6; have t7 := hSw.2.cell 7; clear hSw; simp at s0 s1 s2 t0 t1 t2 t3 t4 t5 t6 t7; go_simp; with_reducible rfl
        simp only [Act.put, List.setIfInBounds_toArray, List.set_cons_zero, List.set_cons_succ]
        refine HT.take 6 (v := ?_) rfl (by kernel_rfl) (fun _ _ _ h => h) (Or.inl ⟨by rfl, ?_⟩) (by assumption) ?_
        rotate_left
        · intro W hSw; rw [← hS] at hSw; have hSw := show Bk W w.heap.size 92 #[.pointer p0, .pointer (some ⟨gl, 0, none⟩), .pointer p2] ∧ Bk W gl 167 #[.pointer x0, .pointer x1, .pointer x2, .pointer x3, .pointer x4, .bool false, .string rel, .slice KA keys.length kc] from hSw; have sl := hSw.2.lt; have s0 := hSw.1.cell 0; have s1 := hSw.1.cell 1; have s2 := hSw.1.cell 2; have t0 := hSw.2.cell 0; have t1 := hSw.2.cell 1; have t2 := hSw.2.cell 2; have t3 := hSw.2.cell 3; have t4 := hSw.2.cell 4; have t5 := hSw.2.cell 5; have t6 := hSw.2.cell 6; have t7 := hSw.2.cell 7; clear hSw; simp at s0 s1 s2 t0 t1 t2 t3 t4 t5 t6 t7; go_simp; with_reducible rfl
        simp only [Act.put, List.setIfInBounds_toArray, List.set_cons_zero, List.set_cons_succ]
        refine HT.take 7 (v := ?_) rfl (by kernel_rfl) (fun _ _ _ h => h) (Or.inl ⟨by rfl, ?_⟩) (by assumption) ?_
        rotate_left
        · intro W hSw; rw [← hS] at hSw; have hSw := show Bk W w.heap.size 92 #[.pointer p0, .pointer (some ⟨gl, 0, none⟩), .pointer p2] ∧ Bk W gl 167 #[.pointer x0, .pointer x1, .pointer x2, .pointer x3, .pointer x4, .bool false, .string rel, .slice KA keys.length kc] from hSw; have sl := hSw.2.lt; have s0 := hSw.1.cell 0; have s1 := hSw.1.cell 1; have s2 := hSw.1.cell 2; have t0 := hSw.2.cell 0; have t1 := hSw.2.cell 1; have t2 := hSw.2.cell 2; have t3 := hSw.2.cell 3; have t4 := hSw.2.cell 4; have t5 := hSw.2.cell 5; have t6 := hSw.2.cell 6; have t7 := hSw.2.cell 7; clear hSw; simp at s0 s1 s2 t0 t1 t2 t3 t4 t5 t6 t7; go_simp; with_reducible rfl
        simp only [Act.put, List.setIfInBounds_toArray, List.set_cons_zero, List.set_cons_succ]
        refine HT.take 8 (v := ?_) rfl (by kernel_rfl) (fun _ _ _ h => h) (Or.inl ⟨by rfl, ?_⟩) (by assumption) ?_
        rotate_left
        · intro W hSw; rw [← hS] at hSw; have hSw := show Bk W w.heap.size 92 #[.pointer p0, .pointer (some ⟨gl, 0, none⟩), .pointer p2] ∧ Bk W gl 167 #[.pointer x0, .pointer x1, .pointer x2, .pointer x3, .pointer x4, .bool false, .string rel, .slice KA keys.length kc] from hSw; have sl := hSw.2.lt; have s0 := hSw.1.cell 0; have s1 := hSw.1.cell 1; have s2 := hSw.1.cell 2; have t0 := hSw.2.cell 0; have t1 := hSw.2.cell 1; have t2 := hSw.2.cell 2; have t3 := hSw.2.cell 3; have t4 := hSw.2.cell 4; have t5 := hSw.2.cell 5; have t6 := hSw.2.cell 6; have t7 := hSw.2.cell 7; clear hSw; simp at s0 s1 s2 t0 t1 t2 t3 t4 t5 t6 t7; go_simp; with_reducible rfl
        simp only [Act.put, List.setIfInBounds_toArray, List.set_cons_zero, List.set_cons_succ]
        refine HT.take 9 (v := ?_) rfl (by kernel_rfl) (fun _ _ _ h => h) (Or.inl ⟨by rfl, ?_⟩) (by assumption) ?_
        rotate_left
        · intro W hSw; rw [← hS] at hSw; have hSw := show Bk W w.heap.size 92 #[.pointer p0, .pointer (some ⟨gl, 0, none⟩), .pointer p2] ∧ Bk W gl 167 #[.pointer x0, .pointer x1, .pointer x2, .pointer x3, .pointer x4, .bool false, .string rel, .slice KA keys.length kc] from hSw; have sl := hSw.2.lt; have s0 := hSw.1.cell 0; have s1 := hSw.1.cell 1; have s2 := hSw.1.cell 2; have t0 := hSw.2.cell 0; have t1 := hSw.2.cell 1; have t2 := hSw.2.cell 2; have t3 := hSw.2.cell 3; have t4 := hSw.2.cell 4; have t5 := hSw.2.cell 5; have t6 := hSw.2.cell 6; have t7 := hSw.2.cell 7; clear hSw; simp at s0 s1 s2 t0 t1 t2 t3 t4 t5 t6 t7; go_simp; with_reducible rfl
        simp only [Act.put, List.setIfInBounds_toArray, List.set_cons_zero, List.set_cons_succ]
        refine HT.take 10 (v := ?_) rfl (by kernel_rfl) (fun _ _ _ h => h) (Or.inl ⟨by rfl, ?_⟩) (by assumption) ?_
        rotate_left
        · intro W hSw; rw [← hS] at hSw; have hSw := show Bk W w.heap.size 92 #[.pointer p0, .pointer (some ⟨gl, 0, none⟩), .pointer p2] ∧ Bk W gl 167 #[.pointer x0, .pointer x1, .pointer x2, .pointer x3, .pointer x4, .bool false, .string rel, .slice KA keys.length kc] from hSw; have sl := hSw.2.lt; have s0 := hSw.1.cell 0; have s1 := hSw.1.cell 1; have s2 := hSw.1.cell 2; have t0 := hSw.2.cell 0; have t1 := hSw.2.cell 1; have t2 := hSw.2.cell 2; have t3 := hSw.2.cell 3; have t4 := hSw.2.cell 4; have t5 := hSw.2.cell 5; have t6 := hSw.2.cell 6; have t7 := hSw.2.cell 7; clear hSw; simp at s0 s1 s2 t0 t1 t2 t3 t4 t5 t6 t7; go_simp; with_reducible rfl
        simp only [Act.put, List.setIfInBounds_toArray, List.set_cons_zero, List.set_cons_succ]
        refine HT.take 11 (v := ?_) rfl (by kernel_rfl) (fun _ _ _ h => h) (Or.inl ⟨by rfl, ?_⟩) (by assumption) ?_
        rotate_left
        · intro W hSw; rw [← hS] at hSw; have hSw := show Bk W w.heap.size 92 #[.pointer p0, .pointer (some ⟨gl, 0, none⟩), .pointer p2] ∧ Bk W gl 167 #[.pointer x0, .pointer x1, .pointer x2, .pointer x3, .pointer x4, .bool false, .string rel, .slice KA keys.length kc] from hSw; have sl := hSw.2.lt; have s0 := hSw.1.cell 0; have s1 := hSw.1.cell 1; have s2 := hSw.1.cell 2; have t0 := hSw.2.cell 0; have t1 := hSw.2.cell 1; have t2 := hSw.2.cell 2; have t3 := hSw.2.cell 3; have t4 := hSw.2.cell 4; have t5 := hSw.2.cell 5; have t6 := hSw.2.cell 6; have t7 := hSw.2.cell 7; clear hSw; simp at s0 s1 s2 t0 t1 t2 t3 t4 t5 t6 t7; go_simp; with_reducible rfl
        simp only [Act.put, List.setIfInBounds_toArray, List.set_cons_zero, List.set_cons_succ]
        refine HT.take 12 (v := ?_) rfl (by kernel_rfl) (fun _ _ _ h => h) (Or.inl ⟨by rfl, ?_⟩) (by assumption) ?_
        rotate_left
        · intro W hSw; rw [← hS] at hSw; have hSw := show Bk W w.heap.size 92 #[.pointer p0, .pointer (some ⟨gl, 0, none⟩), .pointer p2] ∧ Bk W gl 167 #[.pointer x0, .pointer x1, .pointer x2, .pointer x3, .pointer x4, .bool false, .string rel, .slice KA keys.length kc] from hSw; have sl := hSw.2.lt; have s0 := hSw.1.cell 0; have s1 := hSw.1.cell 1; have s2 := hSw.1.cell 2; have t0 := hSw.2.cell 0; have t1 := hSw.2.cell 1; have t2 := hSw.2.cell 2; have t3 := hSw.2.cell 3; have t4 := hSw.2.cell 4; have t5 := hSw.2.cell 5; have t6 := hSw.2.cell 6; have t7 := hSw.2.cell 7; clear hSw; simp at s0 s1 s2 t0 t1 t2 t3 t4 t5 t6 t7; go_simp; with_reducible rfl
        simp only [Act.put, List.setIfInBounds_toArray, List.set_cons_zero, List.set_cons_succ]
        refine HT.take 13 (v := ?_) rfl (by kernel_rfl) (fun _ _ _ h => h) (Or.inl ⟨by rfl, ?_⟩) (by assumption) ?_
        rotate_left
        · intro W hSw; rw [← hS] at hSw; have hSw := show Bk W w.heap.size 92 #[.pointer p0, .pointer (some ⟨gl, 0, none⟩), .pointer p2] ∧ Bk W gl 167 #[.pointer x0, .pointer x1, .pointer x2, .pointer x3, .pointer x4, .bool false, .string rel, .slice KA keys.length kc] from hSw; have sl := hSw.2.lt; have s0 := hSw.1.cell 0; have s1 := hSw.1.cell 1; have s2 := hSw.1.cell 2; have t0 := hSw.2.cell 0; have t1 := hSw.2.cell 1; have t2 := hSw.2.cell 2; have t3 := hSw.2.cell 3; have t4 := hSw.2.cell 4; have t5 := hSw.2.cell 5; have t6 := hSw.2.cell 6; have t7 := hSw.2.cell 7; clear hSw; simp at s0 s1 s2 t0 t1 t2 t3 t4 t5 t6 t7; go_simp; with_reducible rfl
        simp only [Act.put, List.setIfInBounds_toArray, List.set_cons_zero, List.set_cons_succ]
        refine HT.take 14 (v := ?_) rfl (by kernel_rfl) (fun _ _ _ h => h) (Or.inl ⟨by rfl, ?_⟩) (by assumption) ?_
        rotate_left
        · intro W hSw; rw [← hS] at hSw; have hSw := show Bk W w.heap.size 92 #[.pointer p0, .pointer (some ⟨gl, 0, none⟩), .pointer p2] ∧ Bk W gl 167 #[.pointer x0, .pointer x1, .pointer x2, .pointer x3, .pointer x4, .bool false, .string rel, .slice KA keys.length kc] from hSw; have sl := hSw.2.lt; have s0 := hSw.1.cell 0; have s1 := hSw.1.cell 1; have s2 := hSw.1.cell 2; have t0 := hSw.2.cell 0; have t1 := hSw.2.cell 1; have t2 := hSw.2.cell 2; have t3 := hSw.2.cell 3; have t4 := hSw.2.cell 4; have t5 := hSw.2.cell 5; have t6 := hSw.2.cell 6; have t7 := hSw.2.cell 7; clear hSw; simp at s0 s1 s2 t0 t1 t2 t3 t4 t5 t6 t7; go_simp; with_reducible rfl
        simp only [Act.put, List.setIfInBounds_toArray, List.set_cons_zero, List.set_cons_succ]
        refine HT.take 15 (v := ?_) rfl (by kernel_rfl) (fun _ _ _ h => h) (Or.inl ⟨by rfl, ?_⟩) (by assumption) ?_
        rotate_left
        · intro W hSw; rw [← hS] at hSw; have hSw := show Bk W w.heap.size 92 #[.pointer p0, .pointer (some ⟨gl, 0, none⟩), .pointer p2] ∧ Bk W gl 167 #[.pointer x0, .pointer x1, .pointer x2, .pointer x3, .pointer x4, .bool false, .string rel, .slice KA keys.length kc] from hSw; have sl := hSw.2.lt; have s0 := hSw.1.cell 0; have s1 := hSw.1.cell 1; have s2 := hSw.1.cell 2; have t0 := hSw.2.cell 0; have t1 := hSw.2.cell 1; have t2 := hSw.2.cell 2; have t3 := hSw.2.cell 3; have t4 := hSw.2.cell 4; have t5 := hSw.2.cell 5; have t6 := hSw.2.cell 6; have t7 := hSw.2.cell 7; clear hSw; simp at s0 s1 s2 t0 t1 t2 t3 t4 t5 t6 t7; go_simp; with_reducible rfl
        simp only [Act.put, List.setIfInBounds_toArray, List.set_cons_zero, List.set_cons_succ]
        refine HT.one 5 rfl (by kernel_rfl) (by rfl) (fun K hK => ?_)
        go_simp
        refine (HE.out wc.drew (below_drew Hst.out.below)).mono ?_
        rintro e w1 ⟨a, es, hpl, rfl, hp, hb1⟩
        have hb1 : Below wc.heap.size wc w1 := below_drew' hb1
        have hp : SAt (Fr wc.heap.size w1) w1 .ref _ es := hp
        obtain ⟨b, nm, sc, A, n, c, B, m, d, r, rfl⟩ := hp.ref_form
        have st1 := Hst.out.call hb1
        go_simp
        have hS1 : S w1 := by rw [← hS]; exact ⟨st1.a, HB.out.below st1.below hgn⟩
        refine hK.out _ _ hS1 ?_
        clear hK
        refine HT.one 16 rfl (by kernel_rfl) (by rfl) (fun K hK => ?_)
        refine wp_append_row _ (.const (.slice none 0 0)) (.tmp 31) 23 rfl w1.heap.size 9 i9 _ 1 16 Try.underlying23 hi9 hz9 hs9 hb9 rfl (by omega) _ 0 [] rfl (World.ownsRow_nil _ _ _ _) (Old w) KA keys.length kc (keys.map Value.string) rfl (HK.out.1.keeps (Keeps.below st1.below fun _ h => h)) ok_string (by omega) (by omega) (Nat.le_refl _) ?_
        intro vk w2 hown hg hat
        rw [Nat.zero_add, List.nil_append] at hown
        have hb2 : Below w1.heap.size w1 w2 := (Below.refl _ _).grown hg (Nat.le_refl _) (fun g hg' => by cases hg')
        have st2 := st1.call hb2
        obtain ⟨oA, oc, rfl, hc1, hc2⟩ := own_form hown
        go_simp
        have hS2 : S w2 := by rw [← hS]; exact ⟨st2.a, HB.out.below st2.below hgn⟩
        refine hK.out _ _ hS2 ?_
        clear hK
        refine HT.take 17 (v := ?_) rfl (by kernel_rfl) (fun _ _ _ h => h) (Or.inl ⟨by rfl, ?_⟩) (by assumption) ?_
        rotate_left
        · intro W hSw; go_simp; with_reducible rfl
        simp only [Act.put, List.setIfInBounds_toArray, List.set_cons_zero, List.set_cons_succ]
        refine HT.one 18 rfl (by kernel_rfl) (by rfl) (fun K hK => ?_)
        go_simp
        refine hK.out _ _ (by rw [← hS]; exact ⟨st2.a.alloc _, (HB.out.below st2.below hgn).alloc _⟩) ?_
        clear hK
        refine HT.done (by kernel_rfl) ?_
        simp only [List.drop_succ_cons, List.drop_zero]
        clear hS0 hS hS1 hS2
        have hlt := hown.lt
        have hsz1 := hb1.size
        have hsz2 := hb2.size
        have hgW := Hst.out.c.lt
        have st3 := (st2.setC 1 (.slice (some ⟨w2.heap.size, 0, none⟩) 1 1)).alloc (.cells #[.bool b, .string nm, .string sc, .slice A n c, .slice B m d, .string r, .string rel, .slice oA keys.length oc] 105)
        simp at st3
        have hnew : Bk ((w2.setCell ⟨w.heap.size + 1 + 1, 1, none⟩ (.slice (some ⟨w2.heap.size, 0, none⟩) 1 1)).alloc (.cells #[.bool b, .string nm, .string sc, .slice A n c, .slice B m d, .string r, .string rel, .slice oA keys.length oc] 105)) w2.heap.size 105 #[.bool b, .string nm, .string sc, .slice A n c, .slice B m d, .string r, .string rel, .slice oA keys.length oc] := by
          have := Bk.new (w2.setCell ⟨w.heap.size + 1 + 1, 1, none⟩ (.slice (some ⟨w2.heap.size, 0, none⟩) 1 1)) 105 #[.bool b, .string nm, .string sc, .slice A n c, .slice B m d, .string r, .string rel, .slice oA keys.length oc]
          simpa using this
        have hz3 : ((w2.setCell ⟨w.heap.size + 1 + 1, 1, none⟩ (.slice (some ⟨w2.heap.size, 0, none⟩) 1 1)).alloc (.cells #[.bool b, .string nm, .string sc, .slice A n c, .slice B m d, .string r, .string rel, .slice oA keys.length oc] 105)).heap.size = w2.heap.size + 1 := by simp
        have hkk : Keeps (fun x => w.heap.size + 1 + 1 < x ∧ x < w2.heap.size) w2 ((w2.setCell ⟨w.heap.size + 1 + 1, 1, none⟩ (.slice (some ⟨w2.heap.size, 0, none⟩) 1 1)).alloc (.cells #[.bool b, .string nm, .string sc, .slice A n c, .slice B m d, .string r, .string rel, .slice oA keys.length oc] 105)) := by
          intro x hx
          have h1 := hx.1
          have h2 := hx.2
          rw [Below.heap_alloc _ _ _ (by simp <;> omega), Below.heap_setCell _ _ _ _ (by simp only; omega)]
        have hv : SAt (FrA (w.heap.size + 1 + 1) ((w2.setCell ⟨w.heap.size + 1 + 1, 1, none⟩ (.slice (some ⟨w2.heap.size, 0, none⟩) 1 1)).alloc (.cells #[.bool b, .string nm, .string sc, .slice A n c, .slice B m d, .string r, .string rel, .slice oA keys.length oc] 105))) ((w2.setCell ⟨w.heap.size + 1 + 1, 1, none⟩ (.slice (some ⟨w2.heap.size, 0, none⟩) 1 1)).alloc (.cells #[.bool b, .string nm, .string sc, .slice A n c, .slice B m d, .string r, .string rel, .slice oA keys.length oc] 105)) .list (.list a rel keys) [.bool b, .string nm, .string sc, .slice A n c, .slice B m d, .string r, .string rel, .slice oA keys.length oc] := by
          refine (SAt.keeps (F := fun x => w.heap.size + 1 + 1 < x ∧ x < w2.heap.size) ?_ hkk).mono fun x hx => ⟨hx.1, by rw [hz3]; have := hx.2; omega⟩
          refine .list ((hp.keeps (Keeps.below hb2 fun b hb => hb.2)).mono fun b hb => ⟨by have := hb.1; omega, by have := hb.2; omega⟩) HK.out.2.2.1 HK.out.2.2.2.1 HK.out.2.1 hc1 hc2 (Row.of_own hown fun g hg => ?_)
          have := hlt g hg
          exact ⟨by omega, this.2⟩
        have hfin : SlcP (FrA (w.heap.size + 1 + 1) ((w2.setCell ⟨w.heap.size + 1 + 1, 1, none⟩ (.slice (some ⟨w2.heap.size, 0, none⟩) 1 1)).alloc (.cells #[.bool b, .string nm, .string sc, .slice A n c, .slice B m d, .string r, .string rel, .slice oA keys.length oc] 105))) ((w2.setCell ⟨w.heap.size + 1 + 1, 1, none⟩ (.slice (some ⟨w2.heap.size, 0, none⟩) 1 1)).alloc (.cells #[.bool b, .string nm, .string sc, .slice A n c, .slice B m d, .string r, .string rel, .slice oA keys.length oc] 105)) .list l (.slice (some ⟨w2.heap.size, 0, none⟩) 1 1) := by
          rw [HK.out.2.2.2.2]
          exact SlcP.some_ ⟨by omega, by rw [hz3]; omega⟩ hnew rfl hv (by rw [Ytekaainjpddklaa.S.plain, hpl])
        have hgl2 := st2.c.lt
        have fz2 := st2.c.free
        have kk := st2.c.cell 1
        simp at kk
        have H3 := hide (And.intro st3 hfin)
        clear Hst st1 st2 st3 hnew hz3 hkk hv hfin hp hown hg hat hb1 hb2 hlt hc1 hc2 hpl
        go_wp2_with fail
        go_meet
        exact ⟨_, rfl, H3.out.1, H3.out.2⟩
    case rest =>
      obtain ⟨v1, rfl, st, hv1⟩ := hcut
      obtain ⟨y1, y2, y3, rfl⟩ := hv1.form
      clear hgl hgl0 hgl1 fz q0 q1 q2 k0 k1 k2
      have hgl := st.c.lt
      have hgl0 := st.a.lt
      have hgl1 := st.b.lt
      have fz := st.c.free
      have q0 := st.a.cell 0
      have q1 := st.a.cell 1
      have q2 := st.a.cell 2
      have k0 := st.c.cell 0
      have k1 := st.c.cell 1
      have k2 := st.c.cell 2
      simp at q0 q1 q2 k0 k1 k2
      go_upto_if 38 with fail
      go_cut [3] (fun s wx => ∃ v2, s = .pointer (some ⟨w.heap.size + 1 + 1, 0, none⟩) ∧ Q3 w 92 38 38 #[.pointer p0, .pointer p1, .pointer p2] #[.string ⟨#[]⟩, .slice none 0 0, .slice none 0 0] #[.string s0, .slice y1 y2 y3, v2] wx ∧ SlcP (FrA (w.heap.size + 1 + 1) wx) wx .list l (.slice y1 y2 y3) ∧ SlcP (FrA (w.heap.size + 1 + 1) wx) wx .map m v2)
      case first =>
        rcases HM.out.1 with ⟨e1, e2⟩ | ⟨ms, gl, e1, e2, hF, hB⟩
        · cases e2
          have hl := HM.out.2.1.2 e1
          have H2 := hide (And.intro st hv1)
          clear st hv1
          go_wp2_with fail
          go_meet
          exact ⟨.slice none 0 0, rfl, H2.out.1, H2.out.2, by rw [hl]; exact SlcP.none_⟩
        · cases e2
          obtain ⟨x, hx⟩ : ∃ x, m = some x := by
            cases hc : m with
            | none => have := HM.out.2.1.1 hc; rw [e1] at this; cases this
            | some x => exact ⟨x, rfl⟩
          have hp := HM.out.2.2.1 x ms hx e1
          have hgn : gl < w.heap.size := hF
          have HP := hide (HM.out.2.2.2 x hx wc gl ms (Nat.lt_of_lt_of_le hgn st.below.size) (hB.below st.below hgn) (hp.at_ st.below))
          have H2 := hide (And.intro st (And.intro hv1 hx))
          clear st hv1 hp hB hF hx e1
          go_wp2_with fail
          refine HP.out.mono ?_
          rintro e w1 ⟨a, gs, hpl, rfl, hg, hb1⟩
          obtain ⟨g0, g1, g2, g3, g4, g5, g6, g7, g8, g9, ga, gb, gc, gd, rfl⟩ := hg.map_form
          have st1 := H2.out.1.call hb1
          have hsz := hb1.size
          have hgW := H2.out.1.c.lt
          have st3 := (st1.setC 2 (.slice (some ⟨w1.heap.size, 0, none⟩) 1 1)).alloc (.cells #[.slice g0 g1 g2, .bool g3, .string g4, .string g5, .slice g6 g7 g8, .slice g9 ga gb, .string gc, .string gd] 109)
          simp at st3
          have hnew : Bk ((w1.setCell ⟨w.heap.size + 1 + 1, 2, none⟩ (.slice (some ⟨w1.heap.size, 0, none⟩) 1 1)).alloc (.cells #[.slice g0 g1 g2, .bool g3, .string g4, .string g5, .slice g6 g7 g8, .slice g9 ga gb, .string gc, .string gd] 109)) w1.heap.size 109 #[.slice g0 g1 g2, .bool g3, .string g4, .string g5, .slice g6 g7 g8, .slice g9 ga gb, .string gc, .string gd] := by
            have := Bk.new (w1.setCell ⟨w.heap.size + 1 + 1, 2, none⟩ (.slice (some ⟨w1.heap.size, 0, none⟩) 1 1)) 109 #[.slice g0 g1 g2, .bool g3, .string g4, .string g5, .slice g6 g7 g8, .slice g9 ga gb, .string gc, .string gd]
            simpa using this
          have hz3 : ((w1.setCell ⟨w.heap.size + 1 + 1, 2, none⟩ (.slice (some ⟨w1.heap.size, 0, none⟩) 1 1)).alloc (.cells #[.slice g0 g1 g2, .bool g3, .string g4, .string g5, .slice g6 g7 g8, .slice g9 ga gb, .string gc, .string gd] 109)).heap.size = w1.heap.size + 1 := by simp
          have hkk : Keeps (fun x => w.heap.size + 1 + 1 < x ∧ x < w1.heap.size) w1 ((w1.setCell ⟨w.heap.size + 1 + 1, 2, none⟩ (.slice (some ⟨w1.heap.size, 0, none⟩) 1 1)).alloc (.cells #[.slice g0 g1 g2, .bool g3, .string g4, .string g5, .slice g6 g7 g8, .slice g9 ga gb, .string gc, .string gd] 109)) := by
            intro x hx
            have h1 := hx.1
            have h2 := hx.2
            rw [Below.heap_alloc _ _ _ (by simp <;> omega), Below.heap_setCell _ _ _ _ (by simp only; omega)]
          have hv : SAt (FrA (w.heap.size + 1 + 1) ((w1.setCell ⟨w.heap.size + 1 + 1, 2, none⟩ (.slice (some ⟨w1.heap.size, 0, none⟩) 1 1)).alloc (.cells #[.slice g0 g1 g2, .bool g3, .string g4, .string g5, .slice g6 g7 g8, .slice g9 ga gb, .string gc, .string gd] 109))) ((w1.setCell ⟨w.heap.size + 1 + 1, 2, none⟩ (.slice (some ⟨w1.heap.size, 0, none⟩) 1 1)).alloc (.cells #[.slice g0 g1 g2, .bool g3, .string g4, .string g5, .slice g6 g7 g8, .slice g9 ga gb, .string gc, .string gd] 109)) .map a [.slice g0 g1 g2, .bool g3, .string g4, .string g5, .slice g6 g7 g8, .slice g9 ga gb, .string gc, .string gd] :=
            ((hg.mono (G := fun x => w.heap.size + 1 + 1 < x ∧ x < w1.heap.size) fun b hb => ⟨by have := hb.1; omega, hb.2⟩).keeps hkk).mono fun x hx => ⟨hx.1, by rw [hz3]; have := hx.2; omega⟩
          have hfin : SlcP (FrA (w.heap.size + 1 + 1) ((w1.setCell ⟨w.heap.size + 1 + 1, 2, none⟩ (.slice (some ⟨w1.heap.size, 0, none⟩) 1 1)).alloc (.cells #[.slice g0 g1 g2, .bool g3, .string g4, .string g5, .slice g6 g7 g8, .slice g9 ga gb, .string gc, .string gd] 109))) ((w1.setCell ⟨w.heap.size + 1 + 1, 2, none⟩ (.slice (some ⟨w1.heap.size, 0, none⟩) 1 1)).alloc (.cells #[.slice g0 g1 g2, .bool g3, .string g4, .string g5, .slice g6 g7 g8, .slice g9 ga gb, .string gc, .string gd] 109)) .map m (.slice (some ⟨w1.heap.size, 0, none⟩) 1 1) := by
            rw [H2.out.2.2]
            exact SlcP.some_ ⟨by omega, by rw [hz3]; omega⟩ hnew rfl hv hpl
          have hv1' : SlcP (FrA (w.heap.size + 1 + 1) ((w1.setCell ⟨w.heap.size + 1 + 1, 2, none⟩ (.slice (some ⟨w1.heap.size, 0, none⟩) 1 1)).alloc (.cells #[.slice g0 g1 g2, .bool g3, .string g4, .string g5, .slice g6 g7 g8, .slice g9 ga gb, .string gc, .string gd] 109))) ((w1.setCell ⟨w.heap.size + 1 + 1, 2, none⟩ (.slice (some ⟨w1.heap.size, 0, none⟩) 1 1)).alloc (.cells #[.slice g0 g1 g2, .bool g3, .string g4, .string g5, .slice g6 g7 g8, .slice g9 ga gb, .string gc, .string gd] 109)) .list l (.slice y1 y2 y3) := by
            refine (((H2.out.2.1.keeps (Keeps.below hb1 fun b hb => hb.2)).mono (G := fun x => w.heap.size + 1 + 1 < x ∧ x < w1.heap.size) fun b hb => ⟨hb.1, by have := hb.2; omega⟩).keeps hkk).mono fun x hx => ⟨hx.1, by rw [hz3]; have := hx.2; omega⟩
          have hgl2 := st1.c.lt
          have fz2 := st1.c.free
          have kk := st1.c.cell 2
          simp at kk
          have H3 := hide (And.intro st3 (And.intro hv1' hfin))
          clear st1 st3 hnew hz3 hkk hv hfin hv1' hg hb1 hpl
          go_wp2_with fail
          go_meet
          exact ⟨_, rfl, H3.out.1, H3.out.2.1, H3.out.2.2⟩
      case rest =>
        obtain ⟨v2, rfl, st, hv1, hv2⟩ := hcut
        obtain ⟨y4, y5, y6, rfl⟩ := hv2.form
        clear hgl hgl0 hgl1 fz q0 q1 q2 k0 k1 k2
        have hgl := st.c.lt
        have hgl0 := st.a.lt
        have hgl1 := st.b.lt
        have fz := st.c.free
        have q0 := st.a.cell 0
        have q1 := st.a.cell 1
        have q2 := st.a.cell 2
        have k0 := st.c.cell 0
        have k1 := st.c.cell 1
        have k2 := st.c.cell 2
        have fzb := st.b.free
        have r0 := st.b.cell 0
        have r1 := st.b.cell 1
        have r2 := st.b.cell 2
        simp at q0 q1 q2 k0 k1 k2 r0 r1 r2
        obtain ⟨s, hs, hat⟩ := SAt.atom_of H0.out.2 H0.out.1 hv1 hv2
        have H3 := hide (And.intro st (And.intro hs hat))
        clear st hv1 hv2 hs hat
        go_wp2
        exact ret_IAtom rfl _ H3.out.2.1 (by omega) H3.out.1.b H3.out.1.below (H3.out.2.2.mono fun b hb => ⟨by have := hb.1; omega, by have := hb.1; omega, hb.2⟩) rfl

/-- impl.fromAtom of all types -/
theorem fromAtom_all (s : P) (hs : ∃ sc l m, s = .atom sc l m) : FromAtomOK s := by
  induction hn : SizeOf.sizeOf s using Nat.strongRecOn generalizing s with
  | ind n ih =>
  subst hn
  obtain ⟨sc, l, m, rfl⟩ := hs
  have ref : ∀ t : P, SizeOf.sizeOf t < SizeOf.sizeOf (P.atom sc l m) → FromRefOK t := by
    intro t ht w cs h
    have h0 := h
    cases h with
    | @ref named rel inl v0 c0 c1 c2 v1 h1 h2 h3 h4 h5 =>
      refine fromRef_of (ih _ ?_ inl ?_ rfl) w _ h0
      · simp at ht ⊢
        omega
      · cases h4
        exact ⟨_, _, _, rfl⟩
  refine fromAtom_of ?_ ?_
  · intro e rel keys hx
    subst hx
    exact ref e (by simp; omega)
  · intro x hx
    subst hx
    intro w gm cs h1 h2 h
    have h0 := h
    cases h with
    | @map fs e rel =>
      refine fromMap_of (ref e (by simp; omega)) ?_ w _ _ h1 h2 h0
      intro x hx w cs h
      have h0 := h
      have hlt := List.sizeOf_lt_of_mem hx
      cases h with
      | @field name t d => exact fromField_of (ref t (by simp at hlt ⊢; omega)) w _ h0

theorem fromAtom_calls {s : P} {w : World} {cs : List Value} (h : PAt (Old w) w .atom s cs) : Calls Try.prog 65 #[.agg cs.toArray] w (GivesS .atom s w) := by
  have h0 := h
  cases h
  exact fromAtom_all _ ⟨_, _, _, rfl⟩ w _ h0

end Go.Proofs.Ytekaainjpddklaa

/-!
  Schema.FindNamedType.
-/

namespace Go.Proofs.Ytekaainjpddklaa
open Go.RowKit
attribute [local go_sem] run_store_float

/-- the type of a named type, if it has the name -/
def namedP (name : ByteArray) : P → Option P
  | .def_ n a => if n = name then some a else none
  | _ => none
/-- the last type of the name -/
def findL (ts : List P) (name : ByteArray) : Option P := ts.reverse.findSome? (namedP name)
theorem findL_hit {ts : List P} {name : ByteArray} {j : Nat} {a : P} (hj : ts[j]? = some (.def_ name a)) (h : ∀ (i : Nat) p, j < i → ts[i]? = some p → namedP name p = none) : findL ts name = some a := by
  obtain ⟨hlt, he⟩ := List.getElem?_eq_some_iff.1 hj
  unfold findL
  refine List.findSome?_eq_some_iff.2 ⟨(ts.drop (j + 1)).reverse, .def_ name a, (ts.take j).reverse, ?_, if_pos rfl, fun x hx => ?_⟩
  · have e := (List.take_append_drop j ts).symm
    rw [List.drop_eq_getElem_cons hlt, he] at e
    conv => lhs; rw [e]
    simp
  · obtain ⟨i, hi, e⟩ := List.getElem_of_mem (List.mem_reverse.1 hx)
    rw [List.getElem_drop] at e
    exact h (j + 1 + i) x (by omega) (by rw [← e]; exact List.getElem?_eq_getElem _)
theorem findL_miss {ts : List P} {name : ByteArray} (h : ∀ (i : Nat) p, ts[i]? = some p → namedP name p = none) : findL ts name = none := by
  unfold findL
  refine List.findSome?_eq_none_iff.2 fun x hx => ?_
  obtain ⟨i, hi, e⟩ := List.getElem_of_mem (List.mem_reverse.1 hx)
  exact h i x (by rw [← e]; exact List.getElem?_eq_getElem hi)

/-- a type's struct and whether it was found -/
def FindPost (o : Option P) (w : World) (e : Ending) (w' : World) : Prop := ∃ (nm : ByteArray) (x y z : Option Addr), e = .returned (.tuple #[.agg #[.string nm, .pointer x, .pointer y, .pointer z], .bool o.isSome]) ∧ PAt (Old w) w .atom (o.getD P.empty) [.pointer x, .pointer y, .pointer z] ∧ Below w.heap.size w w'

/-- at the head of a round of FindNamedType -/
def FNInv (ts : List P) (name : ByteArray) (W : World) (s : Value) (W' : World) : Prop := ∃ i : Int, s = .int .i64 i ∧ -1 ≤ i ∧ i < (ts.length : Int) ∧ (∀ (j : Nat) p, i < (j : Int) → ts[j]? = some p → namedP name p = none) ∧ W' = W

theorem find_ret {fn : Func} (hfn : fn.results = #[.cell 4 94, .tmp 5]) (tmps : Array Value) {w W : World} {nm : ByteArray} {x y z : Option Addr} {o : Option P} {a0 a1 a2 a3 : Value} (hR : Bk W w.heap.size 94 #[a0, a1, a2, a3]) (hb : Below w.heap.size w W) (ha : PAt (Old w) w .atom (o.getD P.empty) [.pointer x, .pointer y, .pointer z])
    (hp : tmps.getD 4 undef = .pointer (some ⟨w.heap.size, 0, none⟩)) (hq : tmps.getD 5 undef = .bool o.isSome) :
    bodyPost Try.prog fn (FindPost o w) .ret { tmps := tmps, defers := [] } (set4 W w.heap.size (.string nm) (.pointer x) (.pointer y) (.pointer z)) := by
  refine bodyPost_ret (results_cell_two hfn _ _ w.heap.size 94 #[.string nm, .pointer x, .pointer y, .pointer z] (0, 0) _ (.bool o.isSome) hp hq (set4_same _ _ _ _ hR) Try.underlying94 rfl (by kernel_rfl)) rfl ?_
  exact ⟨nm, x, y, z, rfl, ha, set4_below _ _ _ _ hb (Nat.le_refl _)⟩

set_option maxRecDepth 100000 in
set_option maxHeartbeats 4000000 in
theorem findNamedType_calls {ts : List P} {A : Option Addr} {c g : Nat} {name : ByteArray} {w : World} (hg : g < w.heap.size) (hB : Bk w g 162 #[.slice A ts.length c]) (h : SchP (Old w) w ts A c) :
    Calls Try.prog 64 #[.pointer (some ⟨g, 0, none⟩), .string name] w (FindPost (findL ts name) w) := by
  obtain ⟨h1, h2, h3, xs, h4, h5⟩ := h
  have hn : ts.length ≤ 8796093022208 := by unfold R47 at h1; omega
  have H4 := hide (And.intro h4 h5)
  have HB := hide hB
  have q0 := hB.cell 0
  simp at q0
  clear h1 h4 h5 hB
  go_enter Try.func64, Try.ntmps64
  go_upto_region 1 with fail
  have hb0 : Below w.heap.size w (w.alloc (.cells #[.string ⟨#[]⟩, .pointer none, .pointer none, .pointer none] 94)) := (Below.refl _ _).alloc (Nat.le_refl _) _
  have hR0 := Bk.new w 94 #[.string ⟨#[]⟩, .pointer none, .pointer none, .pointer none]
  generalize World.alloc w _ = W at hb0 hR0 ⊢
  have q1 := (HB.out.below hb0 hg).cell 0
  simp at q1
  have hgl := hR0.lt
  have hgg : g < W.heap.size := by omega
  have H0 := hide (And.intro hb0 hR0)
  have e1 : IntKind.i64.wrap ((ts.length : Int) - 1) = (ts.length : Int) - 1 := IntWalk.i64_in _ (by omega)
  clear hb0 hR0
  go_wp2_with fail
  go_loopw [6] (fun s W' => FNInv ts name W s W') (fun s _ => (intOf s + 1).toNat)
  case atStart => exact ⟨(ts.length : Int) - 1, rfl, by omega, by omega, fun j p hj hp => (by have := (List.getElem?_eq_some_iff.1 hp).1; omega), rfl⟩
  case round =>
    obtain ⟨i, rfl, hi1, hi2, hnm, rfl⟩ := hrel
    by_cases hi : 0 ≤ i
    · obtain ⟨j, rfl⟩ : ∃ j : Nat, i = (j : Int) := ⟨i.toNat, by omega⟩
      have hjn : j < ts.length := by omega
      have hx := H4.out.2.at_ hjn
      have hjk : ts[j]? = some ts[j] := List.getElem?_eq_getElem hjn
      generalize ts[j] = fx at *
      generalize hcs : (xs.drop (j * 4)).take 4 = fcs at hx
      obtain ⟨nm, x, y, z, a, rfl, rfl, hn47, ha⟩ := hx.def_form
      obtain ⟨rb, ro, rfl, hF, hc⟩ := rown_at H4.out.1 hjn hcs
      have hkc0 := hc 0 _ rfl
      rw [Nat.add_zero] at hkc0
      have hkc1 := hc 1 _ rfl
      have hkc2 := hc 2 _ rfl
      have hkc3 := hc 3 _ rfl
      have ec := (bcell H0.out.1).1
      rw [← ec _ _ hF] at hkc0 hkc1 hkc2 hkc3
      have hrb : rb < w.heap.size := hF
      have e2 : IntKind.i64.wrap ((j : Int) - 1) = (j : Int) - 1 := IntWalk.i64_in _ (by omega)
      by_cases hname : nm = name
      · subst hname
        have hst : (nm.toList == nm.toList) = true := by simp
        have hres := findL_hit hjk fun i p hi hp => hnm i p (by omega) hp
        have r0 := H0.out.2.cell 0
        have r1 := H0.out.2.cell 1
        have r2 := H0.out.2.cell 2
        have r3 := H0.out.2.cell 3
        simp at r0 r1 r2 r3
        have fzb := H0.out.2.free
        have Hr := hide (And.intro hres (And.intro ha hnm))
        clear hres ha hnm hc ec hjk hcs
        go_wp2
        rw [Hr.out.1]
        exact find_ret (o := some a) rfl _ H0.out.2 H0.out.1 Hr.out.2.1 rfl rfl
      · have hst : (nm.toList == name.toList) = false := by rw [str_eq]; exact decide_eq_false hname
        have hnone : namedP name (.def_ nm a) = none := if_neg hname
        have Hr := hide (And.intro hnm (And.intro hnone hjk))
        clear hnm ha hc ec hjk hcs hnone
        go_wp2_with fail
        refine ⟨⟨(j : Int) - 1, rfl, by omega, by omega, fun k p hk hp => (by
          by_cases hkj : k = j
          · subst hkj
            have := Hr.out.2.2
            rw [hp] at this
            cases this
            exact Hr.out.2.1
          · exact Hr.out.1 k p (by omega) hp), rfl⟩, ?_⟩
        simp only [intOf, Array.getD_eq_getD_getElem?]
        simp <;> omega
    · have hres : findL ts name = none := findL_miss fun k p hp => hnm k p (by omega) hp
      have r0 := H0.out.2.cell 0
      have r1 := H0.out.2.cell 1
      have r2 := H0.out.2.cell 2
      have r3 := H0.out.2.cell 3
      simp at r0 r1 r2 r3
      have fzb := H0.out.2.free
      have Hr := hide (And.intro hres hnm)
      clear hres hnm
      go_wp2
      rw [Hr.out.1]
      exact find_ret (o := none) rfl _ H0.out.2 H0.out.1 PAt.empty_ rfl rfl

end Go.Proofs.Ytekaainjpddklaa

/-!
  impl.FindNamed; Schema.CopyInto.
-/

namespace Go.Proofs.Ytekaainjpddklaa
open Go.RowKit
attribute [local go_sem] run_store_float

/-- a type as the thin package writes it, and whether it was found -/
def NamedPost (o : Option P) (w : World) (e : Ending) (w' : World) : Prop := ∃ (s : Ytekaainjpddklaa.S) (cs : List Value), s.plain = o.getD P.empty ∧ e = .returned (.tuple #[.agg cs.toArray, .bool o.isSome]) ∧ SAt (Fr w.heap.size w') w' .atom s cs ∧ Below w.heap.size w w'

theorem named_ret {fn : Func} (hfn : fn.results = #[.cell 4 38, .tmp 5]) (tmps : Array Value) {w W : World} {r : Nat} {s : Ytekaainjpddklaa.S} {o : Option P} {a0 a1 a2 c0 c1 c2 : Value} (hs : s.plain = o.getD P.empty) (hr : w.heap.size ≤ r) (hR : Bk W r 38 #[a0, a1, a2]) (hb : Below w.heap.size w W) (ha : SAt (FrN w.heap.size r W) W .atom s [c0, c1, c2])
    (hp : tmps.getD 4 undef = .pointer (some ⟨r, 0, none⟩)) (hq : tmps.getD 5 undef = .bool o.isSome) :
    bodyPost Try.prog fn (NamedPost o w) .ret { tmps := tmps, defers := [] } (set3 W r c0 c1 c2) := by
  refine bodyPost_ret (results_cell_two hfn _ _ r 38 #[c0, c1, c2] (0, 0) _ (.bool o.isSome) hp hq (set3_same _ _ _ hR) Try.underlying38 rfl (by kernel_rfl)) rfl ?_
  exact ⟨s, _, hs, rfl, (ha.keeps fun b hb => set3_heap _ _ _ _ _ _ hb.2.1).mono fun b hb => ⟨hb.1, by rw [set3_size]; exact hb.2.2⟩, set3_below _ _ _ hb hr⟩

set_option maxRecDepth 100000 in
set_option maxHeartbeats 4000000 in
theorem findNamed_calls {ts : List Ytekaainjpddklaa.S} {TA : Option Addr} {tc : Nat} {name : ByteArray} {w : World} (h : SchS (Old w) w ts TA tc) :
    Calls Try.prog 21 #[.agg #[.slice TA ts.length tc], .string name] w (NamedPost (findL (ts.map Ytekaainjpddklaa.S.plain) name) w) := by
  have HS := hide fun (W : World) (hb : Below w.heap.size w W) => toSchema_calls (h.at_ hb)
  generalize ts.map Ytekaainjpddklaa.S.plain = ps at *
  clear h
  generalize ts.length = tn at *
  go_enter Try.func21, Try.ntmps21
  go_wp2_with fail
  have st := Q2.made w 33 38 #[.slice TA tn tc] #[.string ⟨#[]⟩, .slice none 0 0, .slice none 0 0]
  generalize World.alloc (World.alloc w _) _ = W at st ⊢
  refine (HS.out _ st.below).mono ?_
  rintro e w1 ⟨g, A, c, rfl, hg, hB, hP, hb1⟩
  have st1 := st.call hb1
  have HF := hide (findNamedType_calls (name := name) hg.2 hB (hP.mono fun b hb => hb.2))
  have Hst := hide st1
  have hlt1 := st1.b.lt
  clear st st1 hB hP hb1 HS hg
  go_wp2_with fail
  refine HF.out.mono ?_
  rintro e w2 ⟨nm, x, y, z, rfl, ha, hb2⟩
  generalize findL ps name = o at *
  have st2 := Hst.out.call hb2
  have hzs := hb2.size
  have hF3 := hide fun (W : World) (hb : Below w2.heap.size w2 W) => fromAtom_calls ((ha.at_ hb2).at_ hb)
  have st3 := st2.call ((Below.refl _ _).alloc (Nat.le_refl _) (.cells #[.string nm, .pointer x, .pointer y, .pointer z] 94))
  have hk := Bk.new w2 94 #[.string nm, .pointer x, .pointer y, .pointer z]
  have hb3 : Below w2.heap.size w2 (w2.alloc (.cells #[.string nm, .pointer x, .pointer y, .pointer z] 94)) := (Below.refl _ _).alloc (Nat.le_refl _) _
  have H3 := hide (And.intro st3 (And.intro hk hb3))
  clear st2 st3 hk hb3 ha hb2 HF Hst
  go_upto_region 2 with fail
  have h3 := H3.out
  clear H3
  obtain ⟨g3, hg3⟩ : ∃ g3, w2.heap.size = g3 := ⟨_, rfl⟩
  rw [hg3] at h3 hF3 ⊢
  generalize World.alloc w2 _ = W3 at h3 ⊢
  obtain ⟨st3, hk, hb3⟩ := h3
  have k1 := hk.cell 1
  have k2 := hk.cell 2
  have k3 := hk.cell 3
  simp at k1 k2 k3
  have hlg := hk.lt
  have HC := hide (hF3.out W3 hb3)
  have H3 := hide st3
  clear hF3 st3 hb3 hk
  go_wp2_with fail
  refine HC.out.mono ?_
  rintro e w4 ⟨s, cs, hs, rfl, hat, hb4⟩
  obtain ⟨f0, f1, f2, f3, f4, f5, f6, rfl⟩ := hat.atom_form
  have st4 := H3.out.call hb4
  have hlt4 := H3.out.b.lt
  have hv : SAt (FrN w.heap.size (w.heap.size + 1) w4) w4 .atom s [.string f0, .slice f1 f2 f3, .slice f4 f5 f6] := hat.mono fun b hb => ⟨by have := hb.1; omega, by have := hb.1; omega, hb.2⟩
  have hgl := st4.b.lt
  have fzb := st4.b.free
  have r0 := st4.b.cell 0
  have r1 := st4.b.cell 1
  have r2 := st4.b.cell 2
  simp at r0 r1 r2
  have H4 := hide (And.intro st4 (And.intro hs hv))
  clear st4 hs hv hat hb4 HC H3
  go_wp2
  exact named_ret rfl _ H4.out.2.1 (by omega) H4.out.1.b H4.out.1.below H4.out.2.2 rfl rfl

end Go.Proofs.Ytekaainjpddklaa
