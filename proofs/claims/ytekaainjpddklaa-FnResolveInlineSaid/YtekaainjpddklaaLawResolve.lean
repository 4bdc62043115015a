/-
  The law FnResolveInline, of every schema and type: it answers true and leaves what stood. No condition.
-/
import Derived.Test.YtekaainjpddklaaAlike
import Derived.Test.YtekaainjpddklaaDefined
import Derived.Test.YtekaainjpddklaaResolve
set_option linter.unusedVariables false
set_option linter.unusedSimpArgs false
namespace Go.Proofs.Ytekaainjpddklaa
open Go.RowKit
attribute [local go_sem] run_store_float

set_option maxRecDepth 100000 in
theorem zzFits10_calls (sc : ByteArray) (LA MA : Option Addr) (ln lc mn mc : Nat) (w : World) : Calls Try.prog 25 #[.agg #[.string sc, .slice LA ln lc, .slice MA mn mc]] w (AllPost True w) := by
  go_enter Try.func25, Try.ntmps25
  go_wp2
  all_goals
    go_ret
    first
      | exact ⟨false, rfl, (fun _ => trivial), (Below.refl _ _).alloc (Nat.le_refl _) _⟩
      | exact ⟨true, rfl, (fun _ => trivial), (Below.refl _ _).alloc (Nat.le_refl _) _⟩

/-- a type written out in a reference -/
def inlS (a : Ytekaainjpddklaa.S) : Ytekaainjpddklaa.S := .ref false ⟨#[]⟩ a ⟨#[]⟩
theorem inlS_plain (a : Ytekaainjpddklaa.S) : (inlS a).plain = .ref none a.plain none := by
  rw [inlS, Ytekaainjpddklaa.S.plain]
  simp [nz]

set_option maxRecDepth 100000 in
set_option maxHeartbeats 8000000 in
theorem resolveLaw {ts : List Ytekaainjpddklaa.S} {TA : Option Addr} {tc : Nat} {a : Ytekaainjpddklaa.S} {w : World} {cs : List Value} (h : SchS (Old w) w ts TA tc) (ha : SAt (Old w) w .atom a cs) :
    Calls Try.prog 6 #[.agg #[.slice TA ts.length tc], .agg cs.toArray] w (LawPost w) := by
  obtain ⟨s0, LA, ln, lc, MA, mn, mc, rfl⟩ := ha.atom_form
  have HZ := hide fun (W : World) => zzFits6_calls TA ts.length tc W
  have HZ2 := hide fun (W : World) => zzFits10_calls s0 LA MA ln lc mn mc W
  have HD := hide fun (W : World) (hb : Below w.heap.size w W) => definedSchema_calls (h.at_ hb)
  have HD2 := hide fun (W : World) (hb : Below w.heap.size w W) => definedAtom_calls (w := W) 20 (by decide) (by decide) (ha.at_ hb)
  have HR := hide fun (W : World) (hb : Below w.heap.size w W) => implResolve_calls (w := W) (r := inlS a) (o := some a.plain) (h.at_ hb) (.ref (by decide) (by decide) (ha.at_ hb)) (by rw [inlS_plain]; exact resolve_bare _ none a.plain)
  have HA := hide fun (W : World) (s : Ytekaainjpddklaa.S) (ds : List Value) (hb : Below w.heap.size w W) (hp : s.plain = a.plain) (hs : SAt (Old W) W .atom s ds) => sameAtom_calls s a W _ _ hp hs (ha.at_ hb)
  clear h ha
  generalize ts.length = tn at *
  go_enter Try.func6, Try.ntmps6
  go_wp2_with fail
  have st := Q2.made w 33 38 #[.slice TA tn tc] #[.string s0, .slice LA ln lc, .slice MA mn mc]
  generalize World.alloc (World.alloc w _) _ = W at st ⊢
  refine (HZ.out W).mono ?_
  rintro e w1 ⟨b, rfl, -, hb1⟩
  replace st := st.call hb1
  clear hb1
  cases b
  · have Hb := hide st.below
    clear st
    go_wp2
    go_ret
    exact ⟨rfl, Hb.out⟩
  have q0 := st.a.cell 0
  have k0 := st.b.cell 0
  have k1 := st.b.cell 1
  have k2 := st.b.cell 2
  simp at q0 k0 k1 k2
  have H1 := hide st
  clear st
  go_wp2_with fail
  refine (HZ2.out w1).mono ?_
  rintro e w2 ⟨b, rfl, -, hb2⟩
  have st := H1.out.call hb2
  clear hb2 q0 k0 k1 k2 H1
  cases b
  · have Hb := hide st.below
    clear st
    go_wp2
    go_ret
    exact ⟨rfl, Hb.out⟩
  have q0 := st.a.cell 0
  have k0 := st.b.cell 0
  have k1 := st.b.cell 1
  have k2 := st.b.cell 2
  simp at q0 k0 k1 k2
  have H2 := hide st
  clear st
  go_wp2_with fail
  refine (HD.out w2 H2.out.below).mono ?_
  rintro e w3 ⟨b, rfl, -, hb3⟩
  have st := H2.out.call hb3
  clear hb3 q0 k0 k1 k2 H2
  cases b
  · have Hb := hide st.below
    clear st
    go_wp2
    go_ret
    exact ⟨rfl, Hb.out⟩
  have q0 := st.a.cell 0
  have k0 := st.b.cell 0
  have k1 := st.b.cell 1
  have k2 := st.b.cell 2
  simp at q0 k0 k1 k2
  have H3 := hide st
  clear st
  go_wp2_with fail
  refine (HD2.out w3 H3.out.below).mono ?_
  rintro e w4 ⟨b, rfl, -, hb4⟩
  have st := H3.out.call hb4
  clear hb4 q0 k0 k1 k2 H3
  cases b
  · have Hb := hide st.below
    clear st
    go_wp2
    go_ret
    exact ⟨rfl, Hb.out⟩
  have q0 := st.a.cell 0
  have k0 := st.b.cell 0
  have k1 := st.b.cell 1
  have k2 := st.b.cell 2
  simp at q0 k0 k1 k2
  have H4 := hide st
  clear st
  go_wp2_with fail
  refine (HR.out w4 H4.out.below).mono ?_
  rintro e w5 ⟨s, ds, hs, rfl, hat, hb5⟩
  obtain ⟨f0, f1, f2, f3, f4, f5, f6, rfl⟩ := hat.atom_form
  have st := H4.out.call hb5
  have hb6 : Below w5.heap.size w5 (w5.alloc (.cells #[.string f0, .slice f1 f2 f3, .slice f4 f5 f6] 38)) := (Below.refl _ _).alloc (Nat.le_refl _) _
  have hB6 := Bk.new w5 38 #[.string f0, .slice f1 f2 f3, .slice f4 f5 f6]
  have H5 := hide (And.intro (st.call hb6) (And.intro hB6 (And.intro hs (hat.keeps (Keeps.below hb6 fun b hb => hb.2)))))
  clear st hb6 hB6 hs hat hb5 q0 k0 k1 k2 H4
  go_upto_region 6 with fail
  obtain ⟨st, hB, hs, hat⟩ := H5.out
  clear H5
  obtain ⟨g6, hg6⟩ : ∃ g6, w5.heap.size = g6 := ⟨_, rfl⟩
  rw [hg6] at hB ⊢
  generalize World.alloc w5 _ = W6 at st hB hat ⊢
  have q0 := hB.cell 0
  have q1 := hB.cell 1
  have q2 := hB.cell 2
  have k0 := st.b.cell 0
  have k1 := st.b.cell 1
  have k2 := st.b.cell 2
  simp at q0 q1 q2 k0 k1 k2
  have hl1 := hB.lt
  have hl2 := st.b.lt
  have HF := hide (HA.out W6 s _ st.below (by simpa using hs) (hat.mono fun b hb => by have := hb.2; unfold Old; omega))
  have Hst := hide st
  clear st hB hs hat hg6
  go_wp2_with fail
  refine HF.out.mono ?_
  rintro e w7 ⟨rfl, hb7⟩
  have Hfin := hide (Hst.out.below.trans (hb7.mono Hst.out.below.size))
  clear hb7
  go_wp2
  go_ret
  exact ⟨rfl, Hfin.out⟩

end Go.Proofs.Ytekaainjpddklaa
