/-
  spec.Named; the law FnCopyFinds, of every two schemas and name: it answers true and leaves what stood. No condition.
-/
import Derived.Test.YtekaainjpddklaaLawFindNamed
import Derived.Test.YtekaainjpddklaaCopy
set_option linter.unusedVariables false
set_option linter.unusedSimpArgs false
namespace Go.Proofs.Ytekaainjpddklaa
open Go.RowKit
attribute [local go_sem] run_store_float

/-- the first type of the name, or none -/
def SNamedPost (ts : List Ytekaainjpddklaa.S) (name : ByteArray) (w : World) (e : Ending) (w' : World) : Prop :=
  ∃ (f0 : ByteArray) (A : Option Addr) (n c : Nat) (B : Option Addr) (m d : Nat) (ok : Bool), e = .returned (.tuple #[.agg #[.string f0, .slice A n c, .slice B m d], .bool ok]) ∧ Below w.heap.size w w' ∧
    (ok = true → ∃ (k : Nat) (a : Ytekaainjpddklaa.S), ts[k]? = some (.def_ name a) ∧ SAt (Old w) w .atom a [.string f0, .slice A n c, .slice B m d]) ∧ (ok = false → ∀ (i : Nat) x, ts[i]? = some x → tname x ≠ name)

theorem snamed_ret {fn : Func} (hfn : fn.results = #[.cell 4 38, .tmp 5]) (tmps : Array Value) {w W : World} {ts : List Ytekaainjpddklaa.S} {name : ByteArray} {f0 : ByteArray} {A B : Option Addr} {n c m d : Nat} {ok : Bool} {a0 a1 a2 : Value} (hR : Bk W (w.heap.size + 1) 38 #[a0, a1, a2]) (hb : Below w.heap.size w W)
    (h1 : ok = true → ∃ (k : Nat) (a : Ytekaainjpddklaa.S), ts[k]? = some (.def_ name a) ∧ SAt (Old w) w .atom a [.string f0, .slice A n c, .slice B m d]) (h2 : ok = false → ∀ (i : Nat) x, ts[i]? = some x → tname x ≠ name)
    (hp : tmps.getD 4 undef = .pointer (some ⟨w.heap.size + 1, 0, none⟩)) (hq : tmps.getD 5 undef = .bool ok) :
    bodyPost Try.prog fn (SNamedPost ts name w) .ret { tmps := tmps, defers := [] } (set3 W (w.heap.size + 1) (.string f0) (.slice A n c) (.slice B m d)) := by
  refine bodyPost_ret (results_cell_two hfn _ _ (w.heap.size + 1) 38 #[.string f0, .slice A n c, .slice B m d] (0, 0) _ (.bool ok) hp hq (set3_same _ _ _ hR) Try.underlying38 rfl (by kernel_rfl)) rfl ?_
  exact ⟨f0, A, n, c, B, m, d, ok, rfl, set3_below _ _ _ hb (by omega), h1, h2⟩

/-- at the head of a round of spec.Named -/
def SNInv (w : World) (box : Array Value) (ts : List Ytekaainjpddklaa.S) (name : ByteArray) (s : Value) (W : World) : Prop := ∃ k : Nat, s = .int .i64 (k : Int) ∧ k ≤ ts.length ∧ (∀ i x, i < k → ts[i]? = some x → tname x ≠ name) ∧ Q2 w 33 38 box #[.string ⟨#[]⟩, .slice none 0 0, .slice none 0 0] W

set_option maxRecDepth 100000 in
set_option maxHeartbeats 4000000 in
theorem specNamed_calls {ts : List Ytekaainjpddklaa.S} {TA : Option Addr} {tc : Nat} {name : ByteArray} {w : World} (h : SchS (Old w) w ts TA tc) :
    Calls Try.prog 24 #[.agg #[.slice TA ts.length tc], .string name] w (SNamedPost ts name w) := by
  obtain ⟨h1, h2, h3, xs, h4, h5⟩ := h
  have hn47 : ts.length * 80 ≤ 140737488351232 := h1
  have H7 := hide (And.intro h4 h5)
  clear h1 h4 h5
  go_enter Try.func24, Try.ntmps24
  go_upto_region 1 with fail
  have st := Q2.made w 33 38 #[.slice TA ts.length tc] #[.string ⟨#[]⟩, .slice none 0 0, .slice none 0 0]
  generalize World.alloc (World.alloc w _) _ = W at st ⊢
  have q0 := st.a.cell 0
  simp at q0
  have hl0 := st.a.lt
  have H0 := hide st
  clear st
  go_wp2_with fail
  go_loopw [11] (fun s W => SNInv w #[.slice TA ts.length tc] ts name s W) (fun s _ => ts.length - (intOf s).toNat)
  case atStart => exact ⟨0, rfl, Nat.zero_le _, fun i x h => by omega, H0.out⟩
  case round =>
    obtain ⟨k, rfl, hk, hno, st⟩ := hrel
    clear q0 hl0
    have hglb := st.b.lt
    by_cases hlt : k < ts.length
    · have hki0 : (0 : Int) ≤ (k : Int) := Int.natCast_nonneg _
      have hki1 : (k : Int) < (ts.length : Int) := by omega
      have hx := H7.out.2.at_ hlt
      have hxk : ts[k]? = some ts[k] := List.getElem?_eq_getElem hlt
      generalize ts[k] = fx at *
      generalize hcs : (xs.drop (k * 4)).take 4 = fcs at hx
      obtain ⟨nm, sc, LA, ln, lc, MA, mn, mc, a, rfl, rfl, hn, ha⟩ := hx.def_form
      obtain ⟨rb, ro, rfl, hF, hc⟩ := rown_at H7.out.1 hlt hcs
      have hkc0 := hc 0 _ rfl
      rw [Nat.add_zero] at hkc0
      have hkc1 := hc 1 _ rfl
      have hkc2 := hc 2 _ rfl
      have hkc3 := hc 3 _ rfl
      have ec := (bcell st.below).1
      rw [← ec _ _ hF] at hkc0 hkc1 hkc2 hkc3
      have hrb : rb < w.heap.size := hF
      by_cases hne : nm = name
      · subst hne
        have hst : (nm.toList == nm.toList) = true := by simp
        have Ha := hide (And.intro hxk ha)
        have st2 := st.call ((Below.refl _ _).alloc (Nat.le_refl _) (.cells #[.string nm, .string sc, .slice LA ln lc, .slice MA mn mc] 42))
        have hBA := Bk.new wr 42 #[.string nm, .string sc, .slice LA ln lc, .slice MA mn mc]
        have H2 := hide (And.intro st2 hBA)
        clear hno st hx hxk ha hc ec hcs hF st2 hBA
        go_upto_region 5 with fail
        obtain ⟨st2, hBA⟩ := H2.out
        clear H2
        obtain ⟨gm, hgm⟩ : ∃ gm, wr.heap.size = gm := ⟨_, rfl⟩
        rw [hgm] at hBA hglb ⊢
        generalize World.alloc wr _ = W2 at st2 hBA ⊢
        have s1 := hBA.cell 1
        have s2 := hBA.cell 2
        have s3 := hBA.cell 3
        simp at s1 s2 s3
        have hl1 := hBA.lt
        have hl2 := st2.b.lt
        have fz := st2.b.free
        have r0 := st2.b.cell 0
        have r1 := st2.b.cell 1
        have r2 := st2.b.cell 2
        simp at r0 r1 r2
        have H2 := hide st2
        clear st2 hBA hgm hkc0 hkc1 hkc2 hkc3
        go_wp2
        exact snamed_ret (ok := true) rfl _ H2.out.b H2.out.below (fun _ => ⟨k, a, Ha.out.1, Ha.out.2⟩) (fun h => by cases h) rfl rfl
      · have hst : (nm.toList == name.toList) = false := by rw [str_eq]; exact decide_eq_false hne
        have Hno := hide (And.intro hno (And.intro hxk hne))
        have Hst := hide st
        clear hno st hx hxk ha hc ec hcs hF hne
        go_wp2_with fail
        refine ⟨⟨k + 1, by go_num, by omega, fun i y hi hy => ?_, Hst.out.call ((Below.refl _ _).alloc (Nat.le_refl _) _)⟩, by simp [intOf]; omega⟩
        by_cases hik : i = k
        · subst hik
          have := Hno.out.2.1
          rw [hy] at this
          cases this
          exact Hno.out.2.2
        · exact Hno.out.1 i y (by omega) hy
    · have hki1 : ¬ ((k : Nat) : Int) < (ts.length : Int) := by omega
      have hall : ∀ (i : Nat) x, ts[i]? = some x → tname x ≠ name := fun i x hx => hno i x (by have := (List.getElem?_eq_some_iff.1 hx).1; omega) hx
      have fz := st.b.free
      have r0 := st.b.cell 0
      have r1 := st.b.cell 1
      have r2 := st.b.cell 2
      simp at r0 r1 r2
      have H2 := hide (And.intro st hall)
      clear hno st hall
      go_wp2
      exact snamed_ret (ok := false) rfl _ H2.out.1.b H2.out.1.below (fun h => by cases h) (fun _ => H2.out.2) rfl rfl

end Go.Proofs.Ytekaainjpddklaa
