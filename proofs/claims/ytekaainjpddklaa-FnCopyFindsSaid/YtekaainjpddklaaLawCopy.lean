/-
  The law FnCopyFinds, of every two schemas and name: it answers true and leaves what stood. No condition.
-/
import Derived.Test.YtekaainjpddklaaNamed
set_option linter.unusedVariables false
set_option linter.unusedSimpArgs false
namespace Go.Proofs.Ytekaainjpddklaa
open Go.RowKit
attribute [local go_sem] run_store_float

/-- the two schemas, each a block of its own -/
def CFs (w : World) (a b : Array Value) (W : World) : Prop := Q2 w 33 33 a b W

set_option maxRecDepth 100000 in
set_option maxHeartbeats 8000000 in
theorem copyLaw {ts us : List Ytekaainjpddklaa.S} {TA UA : Option Addr} {tc uc : Nat} {name : ByteArray} {w : World} (h : SchS (Old w) w ts TA tc) (h' : SchS (Old w) w us UA uc) (hname : name.size ≤ R47) :
    Calls Try.prog 5 #[.agg #[.slice TA ts.length tc], .agg #[.slice UA us.length uc], .string name] w (LawPost w) := by
  have hname' : name.size ≤ 140737488351232 := hname
  have HZ := hide fun (W : World) => zzFits6_calls TA ts.length tc W
  have HZ2 := hide fun (W : World) => zzFits6_calls UA us.length uc W
  have HU := hide fun (W : World) (hb : Below w.heap.size w W) => uniqueTypes_calls (h.at_ hb)
  have HD := hide fun (W : World) (hb : Below w.heap.size w W) => definedSchema_calls (h.at_ hb)
  have HD2 := hide fun (W : World) (hb : Below w.heap.size w W) => definedSchema_calls (h'.at_ hb)
  have HC := hide fun (W : World) (hb : Below w.heap.size w W) => copySchema_calls (h.at_ hb) (h'.at_ hb)
  have HN := hide fun (W : World) (hb : Below w.heap.size w W) => specNamed_calls (name := name) (h.at_ hb)
  have Hdef := hide h.defs
  clear h h' hname
  generalize hun : us.length = un at *
  clear hun
  obtain ⟨tn, htn⟩ : ∃ tn, ts.length = tn := ⟨_, rfl⟩
  rw [htn] at HZ HU HD HC HN ⊢
  clear htn
  go_enter Try.func5, Try.ntmps5
  go_wp2_with fail
  have st := Q2.made w 33 33 #[.slice TA tn tc] #[.slice UA un uc]
  generalize World.alloc (World.alloc w _) _ = W at st ⊢
  refine (HZ.out W).mono ?_
  rintro e w1 ⟨b, rfl, -, hb1⟩
  replace st := st.call hb1
  clear hb1
  cases b
  · have Hb := hide st.below
    clear st
    go_wp2
    go_ret
    exact ⟨rfl, Hb.out⟩
  have q0 := st.a.cell 0
  have k0 := st.b.cell 0
  simp at q0 k0
  have hl0 := st.a.lt
  have hl1 := st.b.lt
  have H1 := hide st
  clear st
  go_wp2_with fail
  refine (HZ2.out w1).mono ?_
  rintro e w2 ⟨b, rfl, -, hb2⟩
  have st := H1.out.call hb2
  clear hb2 q0 k0 hl0 hl1 H1
  cases b
  · have Hb := hide st.below
    clear st
    go_wp2
    go_ret
    exact ⟨rfl, Hb.out⟩
  have q0 := st.a.cell 0
  have k0 := st.b.cell 0
  simp at q0 k0
  have hl0 := st.a.lt
  have hl1 := st.b.lt
  have H2 := hide st
  clear st
  by_cases hbig : 2147483647 < name.size
  · have hbi : (2147483647 : Int) < (name.size : Int) := by omega
    go_wp2
    go_ret
    exact ⟨rfl, H2.out.below⟩
  have hbi : ¬ (2147483647 : Int) < (name.size : Int) := by omega
  go_wp2_with fail
  refine (HU.out w2 H2.out.below).mono ?_
  rintro e w3 ⟨b, rfl, hnd, hb3⟩
  have st := H2.out.call hb3
  clear hb3 q0 k0 hl0 hl1 H2
  have Hnd := hide hnd
  clear hnd
  cases b
  · have Hb := hide st.below
    clear st
    go_wp2
    go_ret
    exact ⟨rfl, Hb.out⟩
  have q0 := st.a.cell 0
  have k0 := st.b.cell 0
  simp at q0 k0
  have hl0 := st.a.lt
  have hl1 := st.b.lt
  have H3 := hide st
  clear st
  go_wp2_with fail
  refine (HD.out w3 H3.out.below).mono ?_
  rintro e w4 ⟨b, rfl, -, hb4⟩
  have st := H3.out.call hb4
  clear hb4 q0 k0 hl0 hl1 H3
  cases b
  · have Hb := hide st.below
    clear st
    go_wp2
    go_ret
    exact ⟨rfl, Hb.out⟩
  have q0 := st.a.cell 0
  have k0 := st.b.cell 0
  simp at q0 k0
  have hl0 := st.a.lt
  have hl1 := st.b.lt
  have H4 := hide st
  clear st
  go_wp2_with fail
  refine (HD2.out w4 H4.out.below).mono ?_
  rintro e w5 ⟨b, rfl, -, hb5⟩
  have st := H4.out.call hb5
  clear hb5 q0 k0 hl0 hl1 H4
  cases b
  · have Hb := hide st.below
    clear st
    go_wp2
    go_ret
    exact ⟨rfl, Hb.out⟩
  have q0 := st.a.cell 0
  have k0 := st.b.cell 0
  simp at q0 k0
  have hl0 := st.a.lt
  have hl1 := st.b.lt
  have H5 := hide st
  clear st
  go_wp2_with fail
  refine (HC.out w5 H5.out.below).mono ?_
  rintro e w6 ⟨l, LA, lc, hpl, rfl, hl, hb6⟩
  have st := H5.out.call hb6
  have HF := hide (findNamed_calls (name := name) (hl.mono fun b hb => hb.2))
  rw [hpl] at HF
  obtain ⟨o, ho⟩ : ∃ o, findL (ts.map Ytekaainjpddklaa.S.plain) name = o := ⟨_, rfl⟩
  rw [ho] at HF
  have Ho := hide ho
  generalize l.length = ll at *
  have H6 := hide st
  clear hb6 q0 k0 hl0 hl1 H5 st hl hpl ho
  go_wp2_with fail
  refine HF.out.mono ?_
  rintro e w7 ⟨s, cs, hs, rfl, hat, hb7⟩
  obtain ⟨f0, f1, f2, f3, f4, f5, f6, rfl⟩ := hat.atom_form
  have hbA : Below w7.heap.size w7 (w7.alloc (.cells #[.string f0, .slice f1 f2 f3, .slice f4 f5 f6] 38)) := (Below.refl _ _).alloc (Nat.le_refl _) _
  have hB := Bk.new w7 38 #[.string f0, .slice f1 f2 f3, .slice f4 f5 f6]
  have H7 := hide (And.intro ((H6.out.call hb7).call hbA) (And.intro hB (And.intro hs (hat.keeps (Keeps.below hbA fun b hb => hb.2)))))
  obtain ⟨ok, hok⟩ : ∃ ok, o.isSome = ok := ⟨_, rfl⟩
  rw [hok]
  have Hok := hide hok
  clear hbA hB hs hat hb7 H6 HF hok
  go_upto_region 6 with fail
  obtain ⟨st, hB, hs, hat⟩ := H7.out
  clear H7
  have hat := hat.mono (G := fun b => b < w7.heap.size) fun b hb => hb.2
  obtain ⟨g7, hg7⟩ : ∃ g7, w7.heap.size = g7 := ⟨_, rfl⟩
  rw [hg7] at hB hat ⊢
  generalize World.alloc w7 _ = W7 at st hB hat ⊢
  have q0 := st.a.cell 0
  simp at q0
  have hl0 := st.a.lt
  have H7 := hide (And.intro st (And.intro hB (And.intro hs hat)))
  have hgl := hB.lt
  clear st hB hs hat hg7
  go_wp2_with fail
  refine (HN.out W7 H7.out.1.below).mono ?_
  rintro e w8 ⟨d0, DA, dn, dc, EA, en, ec, ok2, rfl, hb8, hy1, hy2⟩
  have hbA : Below w8.heap.size w8 (w8.alloc (.cells #[.string d0, .slice DA dn dc, .slice EA en ec] 38)) := (Below.refl _ _).alloc (Nat.le_refl _) _
  have hB8 := Bk.new w8 38 #[.string d0, .slice DA dn dc, .slice EA en ec]
  have H8 := hide (And.intro (hb8.trans (hbA.mono hb8.size)) (And.intro hB8 (And.intro hy1 hy2)))
  clear hb8 hbA hB8 hy1 hy2 q0 hl0 HN
  go_upto_region 7 with fail
  obtain ⟨hb8, hB8, hy1, hy2⟩ := H8.out
  clear H8
  obtain ⟨g8, hg8⟩ : ∃ g8, w8.heap.size = g8 := ⟨_, rfl⟩
  rw [hg8] at hB8 ⊢
  generalize World.alloc w8 _ = W8 at hb8 hB8 ⊢
  have hB7 := H7.out.2.1.below hb8 H7.out.2.1.lt
  have hbw := H7.out.1.below.trans (hb8.mono H7.out.1.below.size)
  cases ok2
  · have hnone := findL_none (name := name) Hdef.out (hy2 rfl)
    have hok : ok = false := by rw [← Hok.out, ← Ho.out, hnone]; rfl
    subst hok
    have Hb := hide hbw
    clear hb8 hB8 hy1 hy2 hg8 hB7 hbw hnone
    go_wp2
    go_ret
    exact ⟨rfl, Hb.out⟩
  · obtain ⟨k, a, hk, ha⟩ := hy1 rfl
    have hfind := findL_unique (Hnd.out (by first | trivial | rfl)) Hdef.out hk
    have hok : ok = true := by rw [← Hok.out, ← Ho.out, hfind]; rfl
    have hpl : s.plain = a.plain := by rw [H7.out.2.2.1, ← Ho.out, hfind]; rfl
    subst hok
    have HS := hide (sameAtom_calls s a W8 _ _ hpl ((H7.out.2.2.2.keeps (Keeps.below hb8 fun b hb => by have : b < g7 := hb; omega)).mono fun b hb => by have : b < g7 := hb; have := hB7.lt; unfold Old; omega) (ha.at_ hb8))
    have r0 := hB7.cell 0
    have r1 := hB7.cell 1
    have r2 := hB7.cell 2
    have s0 := hB8.cell 0
    have s1 := hB8.cell 1
    have s2 := hB8.cell 2
    simp at r0 r1 r2 s0 s1 s2
    have hl7 := hB7.lt
    have hl8 := hB8.lt
    have Hb := hide hbw
    clear hb8 hB8 hy1 hy2 hg8 hB7 hbw hfind hpl hk ha
    go_wp2_with fail
    refine HS.out.mono ?_
    rintro e w9 ⟨rfl, hb9⟩
    have Hfin := hide (Hb.out.trans (hb9.mono Hb.out.size))
    clear hb9
    go_wp2
    go_ret
    exact ⟨rfl, Hfin.out⟩

end Go.Proofs.Ytekaainjpddklaa
