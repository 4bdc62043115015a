/-
  laws.sameAtom; the law FnFindNamedFinds, of every schema and name: it answers true and leaves what stood. No condition.
-/
import Derived.Test.YtekaainjpddklaaAlike
import Derived.Test.YtekaainjpddklaaDefined
set_option linter.unusedVariables false
set_option linter.unusedSimpArgs false
namespace Go.Proofs.Ytekaainjpddklaa
open Go.RowKit
attribute [local go_sem] run_store_float

theorem findL_unique {ts : List Ytekaainjpddklaa.S} {name : ByteArray} {k : Nat} {a : Ytekaainjpddklaa.S} (hnd : (ts.map tname).Nodup) (hdef : ∀ (i : Nat) x, ts[i]? = some x → ∃ n a, x = .def_ n a) (hk : ts[k]? = some (.def_ name a)) : findL (ts.map Ytekaainjpddklaa.S.plain) name = some a.plain := by
  refine findL_hit (j := k) (by rw [List.getElem?_map, hk]; simp [Ytekaainjpddklaa.S.plain]) fun i p hi hp => ?_
  rw [List.getElem?_map] at hp
  obtain ⟨x, hx, rfl⟩ := Option.map_eq_some_iff.1 hp
  obtain ⟨n, b, rfl⟩ := hdef i x hx
  rw [Ytekaainjpddklaa.S.plain]
  refine if_neg fun e => ?_
  subst e
  obtain ⟨h1, h1'⟩ := List.getElem?_eq_some_iff.1 hk
  obtain ⟨h2, h2'⟩ := List.getElem?_eq_some_iff.1 hx
  have := List.pairwise_iff_getElem.1 hnd k i (by simpa using h1) (by simpa using h2) hi
  rw [List.getElem_map, List.getElem_map, h1', h2'] at this
  exact this rfl
theorem findL_none {ts : List Ytekaainjpddklaa.S} {name : ByteArray} (hdef : ∀ (i : Nat) x, ts[i]? = some x → ∃ n a, x = .def_ n a) (h : ∀ (i : Nat) x, ts[i]? = some x → tname x ≠ name) : findL (ts.map Ytekaainjpddklaa.S.plain) name = none := by
  refine findL_miss fun i p hp => ?_
  rw [List.getElem?_map] at hp
  obtain ⟨x, hx, rfl⟩ := Option.map_eq_some_iff.1 hp
  obtain ⟨n, b, rfl⟩ := hdef i x hx
  rw [Ytekaainjpddklaa.S.plain]
  exact if_neg (h i _ hx)
theorem SchS.defs {F : Nat → Prop} {w : World} {ts : List Ytekaainjpddklaa.S} {A : Option Addr} {c : Nat} (h : SchS F w ts A c) : ∀ (i : Nat) x, ts[i]? = some x → ∃ n a, x = .def_ n a := by
  obtain ⟨-, -, -, xs, -, h5⟩ := h
  intro i x hx
  obtain ⟨nm, -, -, -, -, -, -, -, a, e, -⟩ := (h5.2 i x hx).def_form
  exact ⟨nm, a, e⟩

/-- at the head of a round of the law's search -/
def FLInv (w5 : World) (box : Array Value) (ts : List Ytekaainjpddklaa.S) (name : ByteArray) (s : Value) (W : World) : Prop := ∃ k : Nat, s = .int .i64 (k : Int) ∧ k ≤ ts.length ∧ (∀ i x, i < k → ts[i]? = some x → tname x ≠ name) ∧ Bk W w5.heap.size 38 box ∧ Below w5.heap.size w5 W

set_option maxRecDepth 100000 in
set_option maxHeartbeats 8000000 in
theorem findNamedLaw {ts : List Ytekaainjpddklaa.S} {TA : Option Addr} {tc : Nat} {name : ByteArray} {w : World} (h : SchS (Old w) w ts TA tc) (hname : name.size ≤ R47) :
    Calls Try.prog 4 #[.agg #[.slice TA ts.length tc], .string name] w (LawPost w) := by
  have hname' : name.size ≤ 140737488351232 := hname
  have HZ := hide fun (W : World) => zzFits6_calls TA ts.length tc W
  have HU := hide fun (W : World) (hb : Below w.heap.size w W) => uniqueTypes_calls (h.at_ hb)
  have HD := hide fun (W : World) (hb : Below w.heap.size w W) => definedSchema_calls (h.at_ hb)
  have HF := hide fun (W : World) (hb : Below w.heap.size w W) => findNamed_calls (name := name) (h.at_ hb)
  have Hdef := hide h.defs
  obtain ⟨h1, h2, h3, xs, h4, h5⟩ := h
  have hn47 : ts.length * 80 ≤ 140737488351232 := h1
  have H7 := hide (And.intro h4 h5)
  clear h1 h4 h5 hname
  go_enter Try.func4, Try.ntmps4
  go_wp2_with fail
  have hbx := Bk.new w 33 #[.slice TA ts.length tc]
  have hb0 : Below w.heap.size w (w.alloc (.cells #[.slice TA ts.length tc] 33)) := (Below.refl _ _).alloc (Nat.le_refl _) _
  generalize World.alloc w _ = W at hbx hb0 ⊢
  refine (HZ.out W).mono ?_
  rintro e w1 ⟨b, rfl, -, hb1⟩
  replace hbx := hbx.below hb1 hbx.lt
  replace hb0 := hb0.trans (hb1.mono hb0.size)
  clear hb1
  cases b
  · have Hb := hide hb0
    clear hb0 hbx
    go_wp2
    go_ret
    exact ⟨rfl, Hb.out⟩
  have q0 := hbx.cell 0
  simp at q0
  have H1 := hide (And.intro hbx hb0)
  clear hbx hb0
  by_cases hbig : 2147483647 < name.size
  · have hbi : (2147483647 : Int) < (name.size : Int) := by omega
    go_wp2
    go_ret
    exact ⟨rfl, H1.out.2⟩
  have hbi : ¬ (2147483647 : Int) < (name.size : Int) := by omega
  go_wp2_with fail
  refine (HU.out w1 H1.out.2).mono ?_
  rintro e w2 ⟨b, rfl, hnd, hb2⟩
  have hbx := H1.out.1.below hb2 H1.out.1.lt
  have hb0 := H1.out.2.trans (hb2.mono H1.out.2.size)
  clear hb2 H1 q0
  have Hnd := hide hnd
  clear hnd
  cases b
  · have Hb := hide hb0
    clear hb0 hbx
    go_wp2
    go_ret
    exact ⟨rfl, Hb.out⟩
  have q0 := hbx.cell 0
  simp at q0
  have H2 := hide (And.intro hbx hb0)
  clear hbx hb0
  go_wp2_with fail
  refine (HD.out w2 H2.out.2).mono ?_
  rintro e w3 ⟨b, rfl, -, hb3⟩
  have hbx := H2.out.1.below hb3 H2.out.1.lt
  have hb0 := H2.out.2.trans (hb3.mono H2.out.2.size)
  clear hb3 H2 q0
  cases b
  · have Hb := hide hb0
    clear hb0 hbx
    go_wp2
    go_ret
    exact ⟨rfl, Hb.out⟩
  have q0 := hbx.cell 0
  simp at q0
  have H3 := hide (And.intro hbx hb0)
  clear hbx hb0
  go_wp2_with fail
  refine (HF.out w3 H3.out.2).mono ?_
  rintro e w4 ⟨s, cs, hs, rfl, hat, hb4⟩
  obtain ⟨f0, f1, f2, f3, f4, f5, f6, rfl⟩ := hat.atom_form
  have hbx := H3.out.1.below hb4 H3.out.1.lt
  have hb0 := H3.out.2.trans (hb4.mono H3.out.2.size)
  clear hb4 H3 q0
  have q0 := hbx.cell 0
  simp at q0
  have hgl := hbx.lt
  have H4 := hide (And.intro hs (And.intro hat (And.intro hbx hb0)))
  obtain ⟨ok, hok⟩ : ∃ ok, (findL (ts.map Ytekaainjpddklaa.S.plain) name).isSome = ok := ⟨_, rfl⟩
  rw [hok]
  have Hok := hide hok
  clear hs hat hbx hb0 hok HZ HU HD HF
  go_wp2_with fail
  have hB5 := Bk.new w4 38 #[.string f0, .slice f1 f2 f3, .slice f4 f5 f6]
  have hb5 : Below w4.heap.size w4 (w4.alloc (.cells #[.string f0, .slice f1 f2 f3, .slice f4 f5 f6] 38)) := (Below.refl _ _).alloc (Nat.le_refl _) _
  have H5 := hide (And.intro hB5 hb5)
  clear hB5 hb5
  go_loopw [34] (fun s W => FLInv w4 #[.string f0, .slice f1 f2 f3, .slice f4 f5 f6] ts name s W) (fun s _ => ts.length - (intOf s).toNat)
  case atStart => exact ⟨0, rfl, Nat.zero_le _, fun i x h => by omega, H5.out.1, H5.out.2⟩
  case round =>
    obtain ⟨k, rfl, hk, hno, hB, hb⟩ := hrel
    clear q0 hgl
    by_cases hlt : k < ts.length
    · have hki0 : (0 : Int) ≤ (k : Int) := Int.natCast_nonneg _
      have hki1 : (k : Int) < (ts.length : Int) := by omega
      have hx := H7.out.2.at_ hlt
      have hxk : ts[k]? = some ts[k] := List.getElem?_eq_getElem hlt
      generalize ts[k] = fx at *
      generalize hcs : (xs.drop (k * 4)).take 4 = fcs at hx
      obtain ⟨nm, sc, LA, ln, lc, MA, mn, mc, a, rfl, rfl, hn, ha⟩ := hx.def_form
      obtain ⟨rb, ro, rfl, hF, hc⟩ := rown_at H7.out.1 hlt hcs
      have hbw := H4.out.2.2.2.trans (hb.mono H4.out.2.2.2.size)
      have hkc0 := hc 0 _ rfl
      rw [Nat.add_zero] at hkc0
      have hkc1 := hc 1 _ rfl
      have hkc2 := hc 2 _ rfl
      have hkc3 := hc 3 _ rfl
      have ec := (bcell hbw).1
      rw [← ec _ _ hF] at hkc0 hkc1 hkc2 hkc3
      have hrb : rb < w.heap.size := hF
      by_cases hne : nm = name
      · subst hne
        have hst : (nm.toList == nm.toList) = true := by simp
        have hfind := findL_unique (Hnd.out (by first | trivial | rfl)) Hdef.out hxk
        have hok : ok = true := by rw [← Hok.out, hfind]; rfl
        have hpl : s.plain = a.plain := by rw [H4.out.1, hfind]; rfl
        subst hok
        have HS := hide fun (W : World) (hbW : Below wr.heap.size wr W) => sameAtom_calls s a W _ _ hpl ((H4.out.2.1.keeps (Keeps.below (hb.trans (hbW.mono hb.size)) fun b hb => hb.2)).mono fun b hb' => by have := hb.size; have := hbW.size; have := hb'.2; unfold Old; omega) (ha.at_ (hbw.trans (hbW.mono hbw.size)))
        have Hb := hide (And.intro hB (And.intro hb hbw))
        clear hno hB hb hbw hx hxk ha hc ec hcs hF hfind hpl
        go_upto_region 10 with fail
        have hbA : Below wr.heap.size wr (wr.alloc (.cells #[.string nm, .string sc, .slice LA ln lc, .slice MA mn mc] 42)) := (Below.refl _ _).alloc (Nat.le_refl _) _
        have hBA := Bk.new wr 42 #[.string nm, .string sc, .slice LA ln lc, .slice MA mn mc]
        have hBB := Hb.out.1.alloc (.cells #[.string nm, .string sc, .slice LA ln lc, .slice MA mn mc] 42)
        obtain ⟨gm, hgm⟩ : ∃ gm, wr.heap.size = gm := ⟨_, rfl⟩
        have Hgm := hide hgm
        rw [hgm] at hBA ⊢
        generalize World.alloc wr _ = W2 at hbA hBA hBB ⊢
        have s1 := hBA.cell 1
        have s2 := hBA.cell 2
        have s3 := hBA.cell 3
        have t0 := hBB.cell 0
        have t1 := hBB.cell 1
        have t2 := hBB.cell 2
        simp at s1 s2 s3 t0 t1 t2
        have hl1 := hBA.lt
        have hl2 := hBB.lt
        have HA := hide hbA
        clear hbA hBA hBB hgm hkc0 hkc1 hkc2 hkc3
        go_wp2_with fail
        refine (HS.out W2 HA.out).mono ?_
        rintro e w5 ⟨rfl, hb5⟩
        have Hfin := hide (Hb.out.2.2.trans ((HA.out.trans (hb5.mono HA.out.size)).mono Hb.out.2.2.size))
        clear hb5
        go_wp2
        go_ret
        exact ⟨rfl, Hfin.out⟩
      · have hst : (nm.toList == name.toList) = false := by rw [str_eq]; exact decide_eq_false hne
        have Hno := hide (And.intro hno (And.intro hxk hne))
        have Hb := hide (And.intro hB hb)
        clear hno hB hb hbw hx hxk ha hc ec hcs hF hne
        go_wp2_with fail
        refine ⟨⟨k + 1, by go_num, by omega, fun i y hi hy => ?_, Hb.out.1.alloc _, Hb.out.2.alloc Hb.out.2.size _⟩, by simp [intOf]; omega⟩
        by_cases hik : i = k
        · subst hik
          have := Hno.out.2.1
          rw [hy] at this
          cases this
          exact Hno.out.2.2
        · exact Hno.out.1 i y (by omega) hy
    · have hki1 : ¬ ((k : Nat) : Int) < (ts.length : Int) := by omega
      have hfind := findL_none (name := name) Hdef.out fun i x hx => hno i x (by have := (List.getElem?_eq_some_iff.1 hx).1; omega) hx
      have hok : ok = false := by rw [← Hok.out, hfind]; rfl
      subst hok
      have Hfin := hide (H4.out.2.2.2.trans (hb.mono H4.out.2.2.2.size))
      clear hno hB hb hfind
      go_wp2
      go_ret
      exact ⟨rfl, Hfin.out⟩

end Go.Proofs.Ytekaainjpddklaa
