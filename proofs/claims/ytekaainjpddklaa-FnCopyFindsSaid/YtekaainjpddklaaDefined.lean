/-
  laws.definedAtom, laws.definedSchema: some bool.
-/
import Derived.Test.YtekaainjpddklaaUniq
import Derived.Test.YtekaainjpddklaaAlike
set_option linter.unusedVariables false
set_option linter.unusedSimpArgs false
namespace Go.Proofs.Ytekaainjpddklaa
open Go.RowKit
attribute [local go_sem] run_store_float

def DefAtomOK (a : Ytekaainjpddklaa.S) : Prop := ∀ (d : Int) (w : World) (cs : List Value), 0 ≤ d → d ≤ 20 → SAt (Old w) w .atom a cs → Calls Try.prog 26 #[.agg cs.toArray, .int .i64 d] w (AllPost True w)
def DefRefOK (r : Ytekaainjpddklaa.S) : Prop := ∀ (d : Int) (w : World) (c0 c1 c2 c3 c4 c5 : Value), 0 ≤ d → d ≤ 20 → SAt (Old w) w .ref r [c0, c1, c2, c3, c4, c5] → Calls Try.prog 26 #[.agg #[c2, c3, c4], .int .i64 d] w (AllPost True w)

/-- at the head of a round over the lists or maps of a type -/
def DTInv (w : World) (box : Array Value) (n : Nat) (s : Value) (W : World) : Prop := ∃ k : Nat, s = .int .i64 (k : Int) ∧ k ≤ n ∧ Bk W w.heap.size 38 box ∧ Below w.heap.size w W

/-- the first values of a row, as a list of their own -/
theorem LRV.at_ {F : Nat → Prop} {w : World} {d : Option RV} {A : Option Addr} {n c : Nat} {xs : List Value} (h1 : n * 88 ≤ R47) (h2 : n ≤ c) (h3 : c ≤ maxLen) (h4 : n = 0 ↔ d = none) (h5 : Row F w 6 A n xs) (h6 : ∀ r, d = some r → RVAt F w r (xs.take 6)) :
    ∃ l : List RV, l.length = one n ∧ RVAt F w (LRV l) [.int .i64 5, .int .i64 0, .float .f64 0, .string ⟨#[]⟩, .slice none 0 0, .slice A l.length c] := by
  cases d with
  | none =>
    have hn := h4.2 rfl
    subst hn
    exact ⟨[], rfl, .mk (by unfold okInt; decide) (by unfold okInt; decide) (by decide) (by decide) (by decide) (by decide) (by decide) (by decide) (by decide) (Nat.zero_le _) h3 Row.nil_ (h5.take (m := 0) (by omega)) (by simp)⟩
  | some r =>
    have hn : ¬ n = 0 := fun e => by have := h4.1 e; cases this
    have e1 : one n = 1 := if_neg hn
    refine ⟨[r], by rw [e1]; rfl, .mk (by unfold okInt; decide) (by unfold okInt; decide) (by decide) (by decide) (by simp) (by simp [R47]) (by simp [R47]) (by simp) (by decide) (by simp; omega) h3 Row.nil_ (h5.take (m := 1) (by omega)) ?_⟩
    intro i x hx
    cases i with
    | zero =>
      simp at hx
      subst hx
      have := h6 r rfl
      simpa [List.take_take] using this
    | succ i => simp at hx

set_option maxRecDepth 100000 in
set_option maxHeartbeats 8000000 in
theorem definedAtom_of {sc : ByteArray} {l m : Option Ytekaainjpddklaa.S} (hl : ∀ e rel keys, l = some (.list e rel keys) → DefRefOK e) (hm : ∀ fs e rel, m = some (.map fs e rel) → DefRefOK e ∧ ∀ n t d, .field n t d ∈ fs → DefRefOK t) : DefAtomOK (.atom sc l m) := by
  intro d w cs hd0 hd20 h1
  cases h1 with
  | @atom _ _ _ LA MA ln lc mn mc xs ys g1 g2 g3 g4 g5 g6 g7 g8 g9 g10 g11 g12 g13 =>
  have HF1 := hide fun (W : World) => firstList_calls sc LA MA ln lc mn mc W g3 g4 g2
  have HF3 := hide fun (W : World) => firstMap_calls sc LA MA ln lc mn mc W g6 g7 g5
  have HL := hide (And.intro g10 (And.intro g12 (And.intro hl g8)))
  have HM := hide (And.intro g11 (And.intro g13 (And.intro hm g9)))
  have hol : one ln ≤ 1 := by unfold one; split <;> omega
  have hom : one mn ≤ 1 := by unfold one; split <;> omega
  have hzl : one ln = 1 → ¬ ln = 0 := fun h e => by rw [e] at h; cases h
  have hzm : one mn = 1 → ¬ mn = 0 := fun h e => by rw [e] at h; cases h
  have Hz := hide (And.intro hzl hzm)
  clear hl hm g1 g2 g3 g4 g5 g6 g7 g8 g9 g10 g11 g12 g13 hzl hzm
  generalize hy1 : one ln = y1 at *
  generalize hy2 : one mn = y2 at *
  have Hy := hide (And.intro hy1 hy2)
  clear hy1 hy2
  by_cases hdz : d ≤ 0
  · have Hnil := hide trivial
    go_enter Try.func26, Try.ntmps26
    go_wp2
    go_ret
    exact ⟨false, rfl, (fun h => by cases h), (Below.refl _ _).alloc (Nat.le_refl _) _⟩
  have hd1 : 1 ≤ d := by omega
  have ed : IntKind.i64.wrap (d - 1) = d - 1 := IntWalk.i64_in _ (by omega)
  go_enter Try.func26, Try.ntmps26
  go_wp2_with fail
  have hB0 := Bk.new w 38 #[.string sc, .slice LA ln lc, .slice MA mn mc]
  have hb0 : Below w.heap.size w (w.alloc (.cells #[.string sc, .slice LA ln lc, .slice MA mn mc] 38)) := (Below.refl _ _).alloc (Nat.le_refl _) _
  generalize World.alloc w _ = W at hB0 hb0 ⊢
  refine (HF1.out W).mono ?_
  rintro e w1 ⟨rfl, hb1⟩
  have H1 := hide (And.intro (hB0.below hb1 hB0.lt) (hb0.trans (hb1.mono hb0.size)))
  clear hB0 hb0 hb1
  go_wp2_with fail
  go_loopw [16] (fun s W => DTInv w #[.string sc, .slice LA ln lc, .slice MA mn mc] y1 s W) (fun s _ => y1 - (intOf s).toNat)
  case atStart => exact ⟨0, rfl, Nat.zero_le _, H1.out.1, H1.out.2⟩
  case round =>
    obtain ⟨k, rfl, hk, hbx, hb⟩ := hrel
    by_cases hlt : k < y1
    · have hk0 : k = 0 := by omega
      have hki0 : (0 : Int) ≤ (k : Int) := Int.natCast_nonneg _
      have hki1 : (k : Int) < (y1 : Int) := by omega
      have hln0 := Hz.out.1 (by omega)
      obtain ⟨x, hx⟩ : ∃ x, l = some x := by
        cases hc : l with
        | none => exact absurd (HL.out.2.2.2.2 hc) hln0
        | some x => exact ⟨x, rfl⟩
      have ha1 := HL.out.2.1 x hx
      have hd1 : (xs.drop (k * 8)).take 8 = xs.take 8 := by rw [hk0]; simp
      obtain ⟨b1, o1, rfl, hF1, hc1⟩ := rown_at HL.out.1 (show k < ln by omega) hd1
      rw [hk0, Nat.zero_mul, Nat.add_zero] at hc1
      generalize xs.take 8 = as1 at *
      cases ha1 with
      | @list e rel keys a0 a1 a2 a3 a4 a5 KA kc u1 u2 u3 u4 u5 u6 u7 =>
      obtain ⟨f1, f2, f3, f4, f5, f6, f7, f8, f9, fa, ee⟩ := u1.ref_form
      simp only [List.cons.injEq, and_true] at ee
      obtain ⟨rfl, rfl, rfl, rfl, rfl, rfl⟩ := ee
      have hal := HL.out.2.2.1 e rel keys hx
      have HR := hide fun (W : World) (hb : Below w.heap.size w W) => hal (d - 1) W _ _ _ _ _ _ (by omega) (by omega) (u1.at_ hb)
      have HC : ∀ j u, ([.bool f1, .string f2, .string f3, .slice f4 f5 f6, .slice f7 f8 f9, .string fa, .string rel, .slice KA keys.length kc] : List Value)[j]? = some u → wr.cell? ⟨b1, o1 + j, none⟩ = some u := fun j u h => ((bcell hb).1 _ _ hF1).trans (hc1 j u h)
      have m0 := HC 0 _ rfl
      have m1 := HC 1 _ rfl
      have m2 := HC 2 _ rfl
      have m3 := HC 3 _ rfl
      have m4 := HC 4 _ rfl
      have m5 := HC 5 _ rfl
      have m6 := HC 6 _ rfl
      have m7 := HC 7 _ rfl
      rw [Nat.add_zero] at m0
      have hl1 : b1 < w.heap.size := hF1
      have Hb := hide (And.intro hbx hb)
      clear HC hb hbx hc1 hF1 u1 u2 u3 u4 u5 u6 u7 hal hd1 hx
      go_wp2_with fail
      have hbA : Below w.heap.size w (wr.alloc (.cells #[.bool f1, .string f2, .string f3, .slice f4 f5 f6, .slice f7 f8 f9, .string fa, .string rel, .slice KA keys.length kc] 105)) := Hb.out.2.alloc Hb.out.2.size _
      have hBA := Hb.out.1.alloc (.cells #[.bool f1, .string f2, .string f3, .slice f4 f5 f6, .slice f7 f8 f9, .string fa, .string rel, .slice KA keys.length kc] 105)
      generalize World.alloc wr _ = W2 at hbA hBA ⊢
      refine (HR.out W2 hbA).mono ?_
      rintro e w2 ⟨b, rfl, -, hb2⟩
      have H2 := hide (And.intro (hBA.below hb2 hBA.lt) (hbA.trans (hb2.mono hbA.size)))
      clear hbA hBA hb2 m0 m1 m2 m3 m4 m5 m6 m7
      cases b
      · go_wp2
        go_ret
        exact ⟨false, rfl, (fun h => by cases h), H2.out.2⟩
      · go_wp2_with fail
        exact ⟨⟨k + 1, by go_num, by omega, H2.out.1, H2.out.2⟩, by simp [intOf]; omega⟩
    · have hke : ¬ (k : Int) < (y1 : Int) := by omega
      have q0 := hbx.cell 0
      have q1 := hbx.cell 1
      have q2 := hbx.cell 2
      simp at q0 q1 q2
      have hgl := hbx.lt
      have H2 := hide (And.intro hbx hb)
      clear hbx hb
      go_wp2_with fail
      refine (HF3.out wr).mono ?_
      rintro e w3 ⟨rfl, hb3⟩
      have H3 := hide (And.intro (H2.out.1.below hb3 H2.out.1.lt) (H2.out.2.trans (hb3.mono H2.out.2.size)))
      clear hb3 q0 q1 q2
      go_wp2_with fail
      go_loopw [31] (fun s W => DTInv w #[.string sc, .slice LA ln lc, .slice MA mn mc] y2 s W) (fun s _ => y2 - (intOf s).toNat)
      case atStart => exact ⟨0, rfl, Nat.zero_le _, H3.out.1, H3.out.2⟩
      case round =>
        obtain ⟨k2, rfl, hk2, hbx, hb⟩ := hrel
        by_cases hlt2 : k2 < y2
        · have hk0 : k2 = 0 := by omega
          have hki0 : (0 : Int) ≤ (k2 : Int) := Int.natCast_nonneg _
          have hki1 : (k2 : Int) < (y2 : Int) := by omega
          have hmn0 := Hz.out.2 (by omega)
          obtain ⟨x, hx⟩ : ∃ x, m = some x := by
            cases hc : m with
            | none => exact absurd (HM.out.2.2.2.2 hc) hmn0
            | some x => exact ⟨x, rfl⟩
          have ha1 := HM.out.2.1 x hx
          have hd1 : (ys.drop (k2 * 8)).take 8 = ys.take 8 := by rw [hk0]; simp
          obtain ⟨b1, o1, rfl, hF1, hc1⟩ := rown_at HM.out.1 (show k2 < mn by omega) hd1
          rw [hk0, Nat.zero_mul, Nat.add_zero] at hc1
          generalize ys.take 8 = as1 at *
          cases ha1 with
          | @map fs e rel a0 a1 a2 a3 a4 a5 FA fc fxs u1 u2 u3 u4 u5 u6 u7 =>
          obtain ⟨f1, f2, f3, f4, f5, f6, f7, f8, f9, fa, ee⟩ := u6.ref_form
          simp only [List.cons.injEq, and_true] at ee
          obtain ⟨rfl, rfl, rfl, rfl, rfl, rfl⟩ := ee
          have hal := HM.out.2.2.1 fs e rel hx
          have HR := hide fun (W : World) (hb : Below w.heap.size w W) => hal.1 (d - 1) W _ _ _ _ _ _ (by omega) (by omega) (u6.at_ hb)
          have hn47 : fs.length ≤ 977382169384 := by unfold R47 at u1; omega
          have HU := hide (And.intro u4 (And.intro u5 hal.2))
          generalize hn : fs.length = n at *
          have Hn := hide hn
          clear hn
          have HC : ∀ j u, ([.slice FA n fc, .bool f1, .string f2, .string f3, .slice f4 f5 f6, .slice f7 f8 f9, .string fa, .string rel] : List Value)[j]? = some u → wr.cell? ⟨b1, o1 + j, none⟩ = some u := fun j u h => ((bcell hb).1 _ _ hF1).trans (hc1 j u h)
          have m0 := HC 0 _ rfl
          have m1 := HC 1 _ rfl
          have m2 := HC 2 _ rfl
          have m3 := HC 3 _ rfl
          have m4 := HC 4 _ rfl
          have m5 := HC 5 _ rfl
          have m6 := HC 6 _ rfl
          have m7 := HC 7 _ rfl
          rw [Nat.add_zero] at m0
          have hl1 : b1 < w.heap.size := hF1
          have Hb := hide (And.intro hbx hb)
          clear HC hb hbx hc1 hF1 u1 u2 u3 u4 u5 u6 u7 hal hd1 hx
          go_wp2_with fail
          have hbA : Below w.heap.size w (wr.alloc (.cells #[.slice FA n fc, .bool f1, .string f2, .string f3, .slice f4 f5 f6, .slice f7 f8 f9, .string fa, .string rel] 109)) := Hb.out.2.alloc Hb.out.2.size _
          have hBA := Hb.out.1.alloc (.cells #[.slice FA n fc, .bool f1, .string f2, .string f3, .slice f4 f5 f6, .slice f7 f8 f9, .string fa, .string rel] 109)
          have hBM := Bk.new wr 109 #[.slice FA n fc, .bool f1, .string f2, .string f3, .slice f4 f5 f6, .slice f7 f8 f9, .string fa, .string rel]
          obtain ⟨gm, hgm⟩ : ∃ gm, wr.heap.size = gm := ⟨_, rfl⟩
          rw [hgm] at hBM ⊢
          generalize World.alloc wr _ = W2 at hbA hBA hBM ⊢
          refine (HR.out W2 hbA).mono ?_
          rintro e w2 ⟨b, rfl, -, hb2⟩
          have hBM2 := hBM.below hb2 hBM.lt
          have m0' := hBM2.cell 0
          simp at m0'
          have hgml := hBM2.lt
          have H2 := hide (And.intro (hBA.below hb2 hBA.lt) (hbA.trans (hb2.mono hbA.size)))
          clear hbA hBA hBM hBM2 hb2 m0 m1 m2 m3 m4 m5 m6 m7 hgm
          cases b
          · go_wp2
            go_ret
            exact ⟨false, rfl, (fun h => by cases h), H2.out.2⟩
          · go_wp2_with fail
            go_loopw [45] (fun s W => DTInv w #[.string sc, .slice LA ln lc, .slice (some ⟨b1, o1, none⟩) mn mc] n s W) (fun s _ => n - (intOf s).toNat)
            case atStart => exact ⟨0, rfl, Nat.zero_le _, H2.out.1, H2.out.2⟩
            case round =>
              clear m0'
              obtain ⟨j, rfl, hj, hbx, hb⟩ := hrel
              by_cases hltj : j < n
              · have hj1 : j < fs.length := by rw [Hn.out]; exact hltj
                have hxj : fs[j]? = some fs[j] := List.getElem?_eq_getElem hj1
                have hmem : fs[j] ∈ fs := List.getElem_mem _
                have hsx := HU.out.2.1 j _ hxj
                have haf := fun n t d => HU.out.2.2 n t d
                generalize fs[j] = xj at *
                generalize hcs1 : (fxs.drop (j * 8)).take 8 = as1 at hsx
                obtain ⟨fb1, fo1, rfl, hG1, hd1⟩ := rown_at HU.out.1 (by first | exact hltj | (rw [Hn.out]; exact hltj)) hcs1
                have hsx0 := hsx
                obtain ⟨g0, g1, g2, g3, g4, g5, g6, g7, g8, g9, ga, gb, gd, ge, rfl⟩ := hsx0.field_form
                cases hsx with
                | @field nm' t' d' p0 p1 p2 p3 p4 p5 pA pn pc pxs h1 h2 h3 h4 h5 h6 h7 h8 =>
                obtain ⟨L, hLl, hLat⟩ := LRV.at_ h3 h4 h5 h6 h7 h8
                have HT := hide fun (W : World) (hb : Below w.heap.size w W) => haf _ _ _ hmem (d - 1) W _ _ _ _ _ _ (by omega) (by omega) (h2.at_ hb)
                have HO := hide fun (W : World) (hb : Below w.heap.size w W) => orderlyValues_calls L _ _ W (hLat.at_ hb)
                rw [hLl] at HO
                have hge : ge ≤ 9223372036854775807 := h5
                have hgd : gd ≤ 9223372036854775807 := by have := h4; omega
                have hg47 : gd * 88 ≤ 140737488351232 := h3
                have hgg : gd ≤ ge := h4
                have HC : ∀ i u, ([.string g0, .bool g1, .string g2, .string g3, .slice g4 g5 g6, .slice g7 g8 g9, .string ga, .slice gb gd ge] : List Value)[i]? = some u → wr.cell? ⟨fb1, fo1 + j * 8 + i, none⟩ = some u := fun i u h => ((bcell hb).1 _ _ hG1).trans (hd1 i u h)
                have r0 := HC 0 _ rfl
                have r1 := HC 1 _ rfl
                have r2 := HC 2 _ rfl
                have r3 := HC 3 _ rfl
                have r4 := HC 4 _ rfl
                have r5 := HC 5 _ rfl
                have r6 := HC 6 _ rfl
                have r7 := HC 7 _ rfl
                rw [Nat.add_zero] at r0
                have hl3 : fb1 < w.heap.size := hG1
                have hji0 : (0 : Int) ≤ (j : Int) := Int.natCast_nonneg _
                have hji1 : (j : Int) < (n : Int) := by omega
                have Hb := hide (And.intro hbx hb)
                have hone : (gd = 0 ∧ one gd = 0) ∨ (1 ≤ gd ∧ one gd = 1) := by
                  unfold one
                  by_cases hz : gd = 0
                  · exact .inl ⟨hz, if_pos hz⟩
                  · exact .inr ⟨by omega, if_neg hz⟩
                clear HC hb hbx hd1 hG1 h1 h2 h3 h4 h5 h6 h7 h8 haf hxj hmem hcs1 hj1 hLl hLat
                rcases hone with ⟨hz, hone⟩ | ⟨hz, hone⟩
                · subst hz
                  rw [hone] at HO
                  have hS8 := Bk.new wr 111 #[.string g0, .bool g1, .string g2, .string g3, .slice g4 g5 g6, .slice g7 g8 g9, .string ga, .slice gb 0 ge]
                  have hbA : Below w.heap.size w (wr.alloc (.cells #[.string g0, .bool g1, .string g2, .string g3, .slice g4 g5 g6, .slice g7 g8 g9, .string ga, .slice gb 0 ge] 111)) := Hb.out.2.alloc Hb.out.2.size _
                  have hBA := Hb.out.1.alloc (.cells #[.string g0, .bool g1, .string g2, .string g3, .slice g4 g5 g6, .slice g7 g8 g9, .string ga, .slice gb 0 ge] 111)
                  have HA := hide (And.intro hS8 (And.intro hbA hBA))
                  clear hS8 hbA hBA
                  go_upto_region 17 with fail
                  obtain ⟨hS8, hbA, hBA⟩ := HA.out
                  clear HA
                  obtain ⟨gm, hgm⟩ : ∃ gm, wr.heap.size = gm := ⟨_, rfl⟩
                  rw [hgm] at hS8 ⊢
                  generalize World.alloc wr _ = W2 at hbA hBA hS8 ⊢
                  have s1 := hS8.cell 1
                  have s2 := hS8.cell 2
                  have s3 := hS8.cell 3
                  have s4 := hS8.cell 4
                  have s5 := hS8.cell 5
                  have s6 := hS8.cell 6
                  have s7 := hS8.cell 7
                  simp at s1 s2 s3 s4 s5 s6 s7
                  have hsl := hS8.lt
                  have HA := hide (And.intro hS8 (And.intro hbA hBA))
                  clear hS8 hbA hBA hgm r0 r1 r2 r3 r4 r5 r6 r7
                  go_wp2_with fail
                  refine (HO.out W2 HA.out.2.1).mono ?_
                  rintro e w3 ⟨b, rfl, -, hb3⟩
                  have hS9 := HA.out.1.below hb3 HA.out.1.lt
                  have H3 := hide (And.intro (HA.out.2.2.below hb3 HA.out.2.2.lt) (HA.out.2.1.trans (hb3.mono HA.out.2.1.size)))
                  clear s1 s2 s3 s4 s5 s6 s7
                  have s1 := hS9.cell 1
                  have s2 := hS9.cell 2
                  have s3 := hS9.cell 3
                  have s4 := hS9.cell 4
                  have s5 := hS9.cell 5
                  have s6 := hS9.cell 6
                  have s7 := hS9.cell 7
                  simp at s1 s2 s3 s4 s5 s6 s7
                  have hsl' := hS9.lt
                  clear hS9 hb3 HA
                  cases b
                  · go_wp2
                    go_ret
                    exact ⟨false, rfl, (fun h => by cases h), H3.out.2⟩
                  · go_wp2_with fail
                    refine (HT.out w3 H3.out.2).mono ?_
                    rintro e w4 ⟨b, rfl, -, hb4⟩
                    have H4 := hide (And.intro (H3.out.1.below hb4 H3.out.1.lt) (H3.out.2.trans (hb4.mono H3.out.2.size)))
                    clear hb4 s1 s2 s3 s4 s5 s6 s7
                    cases b
                    · go_wp2
                      go_ret
                      exact ⟨false, rfl, (fun h => by cases h), H4.out.2⟩
                    · go_wp2_with fail
                      exact ⟨⟨j + 1, by go_num, by omega, H4.out.1, H4.out.2⟩, by simp [intOf]; omega⟩
                · rw [hone] at HO
                  have hz1 : ¬ (gd : Int) < 1 := by omega
                  have hz2 : (1 : Int) ≤ (ge : Int) := by omega
                  have hS8 := Bk.new wr 111 #[.string g0, .bool g1, .string g2, .string g3, .slice g4 g5 g6, .slice g7 g8 g9, .string ga, .slice gb gd ge]
                  have hbA : Below w.heap.size w (wr.alloc (.cells #[.string g0, .bool g1, .string g2, .string g3, .slice g4 g5 g6, .slice g7 g8 g9, .string ga, .slice gb gd ge] 111)) := Hb.out.2.alloc Hb.out.2.size _
                  have hBA := Hb.out.1.alloc (.cells #[.string g0, .bool g1, .string g2, .string g3, .slice g4 g5 g6, .slice g7 g8 g9, .string ga, .slice gb gd ge] 111)
                  have HA := hide (And.intro hS8 (And.intro hbA hBA))
                  clear hS8 hbA hBA
                  go_upto_region 17 with fail
                  obtain ⟨hS8, hbA, hBA⟩ := HA.out
                  clear HA
                  obtain ⟨gm, hgm⟩ : ∃ gm, wr.heap.size = gm := ⟨_, rfl⟩
                  rw [hgm] at hS8 ⊢
                  generalize World.alloc wr _ = W2 at hbA hBA hS8 ⊢
                  have s1 := hS8.cell 1
                  have s2 := hS8.cell 2
                  have s3 := hS8.cell 3
                  have s4 := hS8.cell 4
                  have s5 := hS8.cell 5
                  have s6 := hS8.cell 6
                  have s7 := hS8.cell 7
                  simp at s1 s2 s3 s4 s5 s6 s7
                  have hsl := hS8.lt
                  have HA := hide (And.intro hS8 (And.intro hbA hBA))
                  clear hS8 hbA hBA hgm r0 r1 r2 r3 r4 r5 r6 r7
                  go_wp2_with fail
                  refine (HO.out W2 HA.out.2.1).mono ?_
                  rintro e w3 ⟨b, rfl, -, hb3⟩
                  have hS9 := HA.out.1.below hb3 HA.out.1.lt
                  have H3 := hide (And.intro (HA.out.2.2.below hb3 HA.out.2.2.lt) (HA.out.2.1.trans (hb3.mono HA.out.2.1.size)))
                  clear s1 s2 s3 s4 s5 s6 s7
                  have s1 := hS9.cell 1
                  have s2 := hS9.cell 2
                  have s3 := hS9.cell 3
                  have s4 := hS9.cell 4
                  have s5 := hS9.cell 5
                  have s6 := hS9.cell 6
                  have s7 := hS9.cell 7
                  simp at s1 s2 s3 s4 s5 s6 s7
                  have hsl' := hS9.lt
                  clear hS9 hb3 HA
                  cases b
                  · go_wp2
                    go_ret
                    exact ⟨false, rfl, (fun h => by cases h), H3.out.2⟩
                  · go_wp2_with fail
                    refine (HT.out w3 H3.out.2).mono ?_
                    rintro e w4 ⟨b, rfl, -, hb4⟩
                    have H4 := hide (And.intro (H3.out.1.below hb4 H3.out.1.lt) (H3.out.2.trans (hb4.mono H3.out.2.size)))
                    clear hb4 s1 s2 s3 s4 s5 s6 s7
                    cases b
                    · go_wp2
                      go_ret
                      exact ⟨false, rfl, (fun h => by cases h), H4.out.2⟩
                    · go_wp2_with fail
                      exact ⟨⟨j + 1, by go_num, by omega, H4.out.1, H4.out.2⟩, by simp [intOf]; omega⟩
              · have hje : ¬ (j : Int) < (n : Int) := by omega
                have H6 := hide (And.intro hbx hb)
                clear hbx hb
                go_wp2_with fail
                exact ⟨⟨k2 + 1, by go_num, by omega, H6.out.1, H6.out.2⟩, by simp [intOf]; omega⟩
        · have hke2 : ¬ (k2 : Int) < (y2 : Int) := by omega
          have H6 := hide (And.intro hbx hb)
          clear hbx hb
          go_wp2
          go_ret
          exact ⟨true, rfl, fun _ => trivial, H6.out.2⟩

/-- laws.definedAtom of all types -/
theorem definedAtom_all (s : Ytekaainjpddklaa.S) (hs : ∃ sc l m, s = .atom sc l m) : DefAtomOK s := by
  induction hn : SizeOf.sizeOf s using Nat.strongRecOn generalizing s with
  | ind n ih =>
  subst hn
  obtain ⟨sc, l, m, rfl⟩ := hs
  have ref : ∀ t : Ytekaainjpddklaa.S, SizeOf.sizeOf t < SizeOf.sizeOf (Ytekaainjpddklaa.S.atom sc l m) → DefRefOK t := by
    intro t ht d w c0 c1 c2 c3 c4 c5 h20 hd h
    cases h with
    | @ref b name rel a _ _ _ h1 h2 h3 =>
      refine ih _ ?_ a ?_ rfl d w _ h20 hd h3
      · simp at ht ⊢
        omega
      · cases h3
        exact ⟨_, _, _, rfl⟩
  refine definedAtom_of ?_ ?_
  · intro e rel keys hx
    subst hx
    exact ref e (by simp; omega)
  · intro fs e rel hx
    subst hx
    refine ⟨ref e (by simp; omega), fun n t d hmem => ?_⟩
    have hlt := lt_list hmem
    exact ref t (by simp at hlt ⊢; omega)

theorem definedAtom_calls {s : Ytekaainjpddklaa.S} {w : World} {cs : List Value} (d : Int) (hd : 0 ≤ d) (h20 : d ≤ 20) (h : SAt (Old w) w .atom s cs) : Calls Try.prog 26 #[.agg cs.toArray, .int .i64 d] w (AllPost True w) := by
  have h0 := h
  cases h
  exact definedAtom_all _ ⟨_, _, _, rfl⟩ d w _ hd h20 h0

/-- at the head of a round of definedSchema -/
def DSInv (w : World) (n : Nat) (s : Value) (W : World) : Prop := ∃ k : Nat, s = .int .i64 (k : Int) ∧ k ≤ n ∧ Below w.heap.size w W

set_option maxRecDepth 100000 in
set_option maxHeartbeats 4000000 in
theorem definedSchema_calls {ts : List Ytekaainjpddklaa.S} {TA : Option Addr} {tc : Nat} {w : World} (h : SchS (Old w) w ts TA tc) :
    Calls Try.prog 20 #[.agg #[.slice TA ts.length tc]] w (AllPost True w) := by
  obtain ⟨h1, h2, h3, xs, h4, h5⟩ := h
  have h1' : ts.length * 80 ≤ 140737488351232 := h1
  have H7 := hide (And.intro h1 (And.intro h4 h5))
  clear h1 h4 h5
  go_enter Try.func20, Try.ntmps20
  go_wp2_with fail
  have H0 := hide (show Below w.heap.size w (w.alloc (.cells #[.slice TA ts.length tc] 33)) from (Below.refl _ _).alloc (Nat.le_refl _) _)
  go_loopw [8] (fun s W => DSInv w ts.length s W) (fun s _ => ts.length - (intOf s).toNat)
  case atStart => exact ⟨0, rfl, Nat.zero_le _, H0.out⟩
  case round =>
    obtain ⟨k, rfl, hk, hb⟩ := hrel
    by_cases hlt : k < ts.length
    · have hki0 : (0 : Int) ≤ (k : Int) := Int.natCast_nonneg _
      have hki1 : (k : Int) < (ts.length : Int) := by omega
      have hx := H7.out.2.2.at_ hlt
      generalize ts[k] = fx at *
      generalize hcs : (xs.drop (k * 4)).take 4 = fcs at hx
      obtain ⟨nm, sc, LA, ln, lc, MA, mn, mc, a, rfl, rfl, hn, ha⟩ := hx.def_form
      obtain ⟨rb, ro, rfl, hF, hc⟩ := rown_at H7.out.2.1 hlt hcs
      have hkc0 := hc 0 _ rfl
      rw [Nat.add_zero] at hkc0
      have hkc1 := hc 1 _ rfl
      have hkc2 := hc 2 _ rfl
      have hkc3 := hc 3 _ rfl
      have ec := (bcell hb).1
      rw [← ec _ _ hF] at hkc0 hkc1 hkc2 hkc3
      have hrb : rb < w.heap.size := hF
      have HD := hide fun (W : World) (hb : Below w.heap.size w W) => definedAtom_calls (w := W) 20 (by decide) (by decide) (ha.at_ hb)
      have Hb := hide hb
      clear hb hx ha hc ec hcs hF
      go_wp2_with fail
      have hbA : Below w.heap.size w (wr.alloc (.cells #[.string nm, .string sc, .slice LA ln lc, .slice MA mn mc] 42)) := Hb.out.alloc Hb.out.size _
      generalize World.alloc wr _ = W2 at hbA ⊢
      refine (HD.out W2 hbA).mono ?_
      rintro e w2 ⟨b, rfl, -, hb2⟩
      have H2 := hide (hbA.trans (hb2.mono hbA.size))
      clear hbA hb2 hkc0 hkc1 hkc2 hkc3
      cases b
      · go_wp2
        go_ret
        exact ⟨false, rfl, (fun h => by cases h), H2.out⟩
      · go_wp2_with fail
        exact ⟨⟨k + 1, by go_num, by omega, H2.out⟩, by simp [intOf]; omega⟩
    · have hki1 : ¬ ((k : Nat) : Int) < (ts.length : Int) := by omega
      have Hb := hide hb
      clear hb
      go_wp2
      go_ret
      exact ⟨true, rfl, fun _ => trivial, Hb.out⟩

end Go.Proofs.Ytekaainjpddklaa
