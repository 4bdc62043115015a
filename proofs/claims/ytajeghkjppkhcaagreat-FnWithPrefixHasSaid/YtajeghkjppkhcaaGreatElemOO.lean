/-
  Several texts in one: ElemOrd, ElemOk.
-/
import Derived.Test.YtajeghkjppkhcaaGreatElemSpec
import Derived.Test.YtajeghkjppkhcaaGreatSpecO
import Derived.Test.YtajeghkjppkhcaaGreatSpec
import Derived.Test.YtajeghkjppkhcaaGreatLists5
set_option linter.unusedVariables false
set_option linter.unusedSimpArgs false
/-!
  The reference's KeySorted and OrderlyElem; laws.zzFits13.
-/

namespace Go.Proofs.YtajeghkjppkhcaaGreat
open Go.RowKit
attribute [local go_sem] run_store_float

theorem sortK_snoc {l : List ByteArray} {i : Nat} (hs : SortK (l.take i)) (h1 : 1 ≤ i) (h2 : i < l.length) (hlt : klt l[i - 1] l[i] = true) : SortK (l.take (i + 1)) := by
  rw [List.take_succ_eq_append_getElem h2]
  refine List.pairwise_append.2 ⟨hs, List.pairwise_singleton _ _, fun a ha b hb => ?_⟩
  rw [List.mem_singleton.1 hb]
  obtain ⟨j, hj, e⟩ := List.getElem_of_mem ha
  rw [List.length_take] at hj
  rw [List.getElem_take] at e
  rcases Nat.lt_or_ge j (i - 1) with h | h
  · have h3 := List.pairwise_iff_getElem.1 hs j (i - 1) (by rw [List.length_take]; omega) (by rw [List.length_take]; omega) h
    rw [List.getElem_take, List.getElem_take] at h3
    rw [← e]
    exact klt_trans h3 hlt
  · have : j = i - 1 := by omega
    subst this
    rw [← e]
    exact hlt

/-- at the head of a round of KeySorted -/
def KSI2 (w W2 : World) (keys : List ByteArray) (s : Value) (W : World) : Prop := ∃ i : Nat, s = .int .i64 (i : Int) ∧ 1 ≤ i ∧ (i ≤ keys.length ∨ i = 1) ∧ SortK (keys.take i) ∧ Below W2.heap.size W2 W

/-- the cells that a round loads -/
def KSS (g b o i j : Nat) (kv x y : Value) (W : World) : Prop := W.cell? ⟨g, 2, none⟩ = some kv ∧ W.cell? ⟨b, o + i, none⟩ = some x ∧ W.cell? ⟨b, o + j, none⟩ = some y

theorem ElemAt.rows {F : Nat → Prop} {w : World} {r : REl} {a b c d e f g h i : Value} {KA LA : Option Addr} {kn kc ln lc : Nat} (hr : ElemAt F w r [a, b, .slice KA kn kc, .slice LA ln lc, c, d, e, f, g, h, i]) :
    kn = r.keys.length ∧ ln = r.l.length ∧ r.keys.length * 16 ≤ R47 ∧ (∀ k ∈ r.keys, k.size ≤ R47) ∧ Row F w 1 KA r.keys.length (r.keys.map Value.string) := by
  cases hr with
  | mk h1 h2 h3 h4 h5 =>
    cases h3 with
    | mk g1 g2 g3 g4 g5 g6 g7 g8 g9 g10 g11 hK hL hx => exact ⟨rfl, rfl, g6, g5, hK⟩

set_option maxRecDepth 100000 in
set_option maxHeartbeats 4000000 in
theorem keySorted_calls (r : REl) (w : World) (cs : List Value) (h : ElemAt (Old w) w r cs) : Calls Tryz.prog 75 #[.agg cs.toArray] w (OrdPost (SortK r.elem.toREl.keys) w) := by
  have H := hide fun (W : World) (hb : Below w.heap.size w W) => cleanElem_calls r W _ (h.at_ hb)
  generalize r.elem.toREl = r' at *
  obtain ⟨a0, a1, a2, a3, a4, a5, a6, a7, a8, a9, aa, ab, ac, ad, ae, af, ag, ah, ai, rfl⟩ := h.form
  clear h
  go_enter Tryz.func75, Tryz.ntmps75
  go_wp2_with fail
  have hb0 : Below w.heap.size w (w.alloc (.cells #[.int .i64 a0, .string a1, .slice a2 a3 a4, .slice a5 a6 a7, .int .i64 a8, .int .i64 a9, .float .f64 aa, .string ab, .slice ac ad ae, .slice af ag ah, .int .i64 ai] 33)) := (Below.refl _ _).alloc (Nat.le_refl _) _
  have hB0 := Bk.new w 33 #[.int .i64 a0, .string a1, .slice a2 a3 a4, .slice a5 a6 a7, .int .i64 a8, .int .i64 a9, .float .f64 aa, .string ab, .slice ac ad ae, .slice af ag ah, .int .i64 ai]
  generalize World.alloc _ _ = W at hb0 hB0 ⊢
  refine (H.out _ hb0).mono ?_
  rintro e w1 ⟨es, rfl, hes, hb1⟩
  obtain ⟨e0, e1, e2, e3, e4, e5, e6, e7, e8, e9, ea, eb, ec, ed, ee, ef, eg, eh, ei, rfl⟩ := hes.form
  have hB1 := hB0.below hb1 hB0.lt
  have hbw := hb0.trans (hb1.mono hb0.size)
  have hgl := hB0.lt
  have hes := hes.mono (G := fun b => w.heap.size + 1 ≤ b ∧ b < w1.heap.size) fun b hb => ⟨by have := hb.1; omega, hb.2⟩
  obtain ⟨rfl, rfl, h16, hks, hrow⟩ := hes.rows
  have hn : r'.keys.length ≤ 8796093022208 := by unfold R47 at h16; omega
  have fz : ∀ i, w1.frozen? ⟨w.heap.size, i, none⟩ = false := fun i => hB1.free i
  obtain ⟨p0, p1, p2, p3, p4, p5, p6, p7, p8, p9, p10⟩ := hB1.cells11
  have hset := set11_same (h := hB1) (c0 := .int .i64 e0) (c1 := .string e1) (c2 := .slice e2 r'.keys.length e4) (c3 := .slice e5 r'.l.length e7) (c4 := .int .i64 e8) (c5 := .int .i64 e9) (c6 := .float .f64 ea) (c7 := .string eb) (c8 := .slice ec ed ee) (c9 := .slice ef eg eh) (c10 := .int .i64 ei)
  have hsb := set11_below (.int .i64 e0) (.string e1) (.slice e2 r'.keys.length e4) (.slice e5 r'.l.length e7) (.int .i64 e8) (.int .i64 e9) (.float .f64 ea) (.string eb) (.slice ec ed ee) (.slice ef eg eh) (.int .i64 ei) hbw (Nat.le_refl w.heap.size)
  have hsh := fun b (hb : b ≠ w.heap.size) => set11_heap w1 w.heap.size (.int .i64 e0) (.string e1) (.slice e2 r'.keys.length e4) (.slice e5 r'.l.length e7) (.int .i64 e8) (.int .i64 e9) (.float .f64 ea) (.string eb) (.slice ec ed ee) (.slice ef eg eh) (.int .i64 ei) b hb
  have hsz := set11_size w1 w.heap.size (.int .i64 e0) (.string e1) (.slice e2 r'.keys.length e4) (.slice e5 r'.l.length e7) (.int .i64 e8) (.int .i64 e9) (.float .f64 ea) (.string eb) (.slice ec ed ee) (.slice ef eg eh) (.int .i64 ei)
  have hrow := (hrow.keeps (w' := set11 w1 w.heap.size (.int .i64 e0) (.string e1) (.slice e2 r'.keys.length e4) (.slice e5 r'.l.length e7) (.int .i64 e8) (.int .i64 e9) (.float .f64 ea) (.string eb) (.slice ec ed ee) (.slice ef eg eh) (.int .i64 ei)) fun b hb => hsh b (by have := hb.1; omega)).mono (G := fun b => w.heap.size + 1 ≤ b ∧ b < (set11 w1 w.heap.size (.int .i64 e0) (.string e1) (.slice e2 r'.keys.length e4) (.slice e5 r'.l.length e7) (.int .i64 e8) (.int .i64 e9) (.float .f64 ea) (.string eb) (.slice ec ed ee) (.slice ef eg eh) (.int .i64 ei)).heap.size) fun b hb => ⟨hb.1, by rw [hsz]; exact hb.2⟩
  unfold set11 at hset hsb hrow
  have Hx := hide (And.intro hset (And.intro hsb (And.intro hrow hks)))
  clear hes hB0 hB1 hb0 hbw hset hsb hsh hsz hrow hks hb1
  go_upto_region 2 with fail
  have hx := Hx.out
  clear Hx fz p0 p1 p2 p3 p4 p5 p6 p7 p8 p9 p10
  generalize World.setCell _ _ _ = W2 at hx ⊢
  obtain ⟨hset, hsb, hrow, hks⟩ := hx
  generalize r'.keys = keys at *
  generalize r'.l.length = ln at *
  have HR := hide hrow
  have HK := hide hks
  have H0 := hide (And.intro hset hsb)
  clear hset hsb hrow hks
  go_wp2_with fail
  go_loopw [3] (fun s W => KSI2 w W2 keys s W) (fun s _ => keys.length + 1 - (intOf s).toNat)
  case atStart => exact ⟨1, rfl, Nat.le_refl _, .inr rfl, by cases keys with | nil => exact List.Pairwise.nil | cons a l => exact List.pairwise_singleton _ _, Below.refl _ _⟩
  case round =>
    obtain ⟨i, rfl, hi1, hi2, hs, hb⟩ := hrel
    have hB := H0.out.1.below hb H0.out.1.lt
    have q2 := hB.cell 2
    simp at q2
    have hgl2 := H0.out.1.lt
    have hbs := hb.size
    by_cases hlt : i < keys.length
    · have hsn := sortK_snoc hs hi1 hlt
      obtain ⟨b, o, rfl, hF, hc0⟩ := row1_at (u := .string keys[i]) HR.out hlt (by simp [hlt])
      obtain ⟨b', o', e', hF', hc1⟩ := row1_at (k := i - 1) (u := .string keys[i - 1]) HR.out (by omega) (by simp)
      cases e'
      have hk0 := HK.out _ (List.getElem_mem hlt)
      have hk1 := HK.out keys[i - 1] (List.getElem_mem _)
      generalize keys[i] = kb at *
      generalize keys[i - 1] = ka at *
      rw [← (bcell hb).1 _ _ hF.2] at hc0 hc1
      obtain ⟨x, hx⟩ : ∃ x, cmpS ka kb = x := ⟨_, rfl⟩
      have hcall := fun W => specStrings_calls ka kb hk1 hk0 W
      rw [hx] at hcall
      have Hcall := hide hcall
      have Hx := hide hx
      have hbl := hF.2
      obtain ⟨j, rfl⟩ : ∃ j, i = j + 1 := ⟨i - 1, by omega⟩
      rw [Nat.add_sub_cancel] at hc1
      have Hsn := hide hsn
      have Hb := hide hb
      have hki0 : (0 : Int) ≤ (j : Int) := Int.natCast_nonneg _
      have hki1 : (j : Int) + 1 < (keys.length : Int) := by omega
      have hki3 : (0 : Int) ≤ (j : Int) + 1 := by omega
      have hki2 : (j : Int) < (keys.length : Int) := by omega
      have e1 : IntKind.i64.wrap ((j : Int) + 1 - 1) = (j : Int) := by rw [IntWalk.i64_in _ (by omega)]; omega
      have e2 : ((j : Int) + 1).toNat = j + 1 := by omega
      have e3 : IntKind.i64.wrap (j : Int) = (j : Int) := IntWalk.i64_in _ (by omega)
      clear hs hsn hx hcall hF hF' hk0 hk1 hb hB hi2
      rw [show ((j + 1 : Nat) : Int) = (j : Int) + 1 from rfl]
      go_wp2_with fail
      have hS0 : KSS w.heap.size b o (j + 1) j (.slice (some ⟨b, o, none⟩) keys.length e4) (.string kb) (.string ka) wr.drew := ⟨q2, hc0, hc1⟩
      obtain ⟨S, hS⟩ : ∃ S, KSS w.heap.size b o (j + 1) j (.slice (some ⟨b, o, none⟩) keys.length e4) (.string kb) (.string ka) = S := ⟨_, rfl⟩
      rw [hS] at hS0
      refine wp_region_head 12 S (by rfl) (by kernel_rfl) ?_
      refine HT.take 0 (v := ?_) rfl (by kernel_rfl) (fun _ _ _ h => h) (Or.inl ⟨by rfl, ?_⟩) (by assumption) ?_
      rotate_left
      · intro W hSw; rw [← hS] at hSw; obtain ⟨s0, s1, s2⟩ := (show W.cell? ⟨w.heap.size, 2, none⟩ = some (.slice (some ⟨b, o, none⟩) keys.length e4) ∧ W.cell? ⟨b, o + (j + 1), none⟩ = some (.string kb) ∧ W.cell? ⟨b, o + j, none⟩ = some (.string ka) from hSw); go_simp; with_reducible rfl
      simp only [Act.put, List.setIfInBounds_toArray, List.set_cons_zero, List.set_cons_succ]
      refine HT.take 1 (v := ?_) rfl (by kernel_rfl) (fun _ _ _ h => h) (Or.inl ⟨by rfl, ?_⟩) (by assumption) ?_
      rotate_left
      · intro W hSw; rw [← hS] at hSw; obtain ⟨s0, s1, s2⟩ := (show W.cell? ⟨w.heap.size, 2, none⟩ = some (.slice (some ⟨b, o, none⟩) keys.length e4) ∧ W.cell? ⟨b, o + (j + 1), none⟩ = some (.string kb) ∧ W.cell? ⟨b, o + j, none⟩ = some (.string ka) from hSw); go_simp; with_reducible rfl
      simp only [Act.put, List.setIfInBounds_toArray, List.set_cons_zero, List.set_cons_succ]
      refine HT.take 2 (v := ?_) rfl (by kernel_rfl) (fun _ _ _ h => h) (Or.inl ⟨by rfl, ?_⟩) (by assumption) ?_
      rotate_left
      · intro W hSw; rw [← hS] at hSw; obtain ⟨s0, s1, s2⟩ := (show W.cell? ⟨w.heap.size, 2, none⟩ = some (.slice (some ⟨b, o, none⟩) keys.length e4) ∧ W.cell? ⟨b, o + (j + 1), none⟩ = some (.string kb) ∧ W.cell? ⟨b, o + j, none⟩ = some (.string ka) from hSw); go_simp; with_reducible rfl
      simp only [Act.put, List.setIfInBounds_toArray, List.set_cons_zero, List.set_cons_succ]
      refine HT.take 3 (v := ?_) rfl (by kernel_rfl) (fun _ _ _ h => h) (Or.inl ⟨by rfl, ?_⟩) (by assumption) ?_
      rotate_left
      · intro W hSw; rw [← hS] at hSw; obtain ⟨s0, s1, s2⟩ := (show W.cell? ⟨w.heap.size, 2, none⟩ = some (.slice (some ⟨b, o, none⟩) keys.length e4) ∧ W.cell? ⟨b, o + (j + 1), none⟩ = some (.string kb) ∧ W.cell? ⟨b, o + j, none⟩ = some (.string ka) from hSw); go_simp; with_reducible rfl
      simp only [Act.put, List.setIfInBounds_toArray, List.set_cons_zero, List.set_cons_succ]
      refine HT.take 4 (v := ?_) rfl (by kernel_rfl) (fun _ _ _ h => h) (Or.inl ⟨by rfl, ?_⟩) (by assumption) ?_
      rotate_left
      · intro W hSw; rw [← hS] at hSw; obtain ⟨s0, s1, s2⟩ := (show W.cell? ⟨w.heap.size, 2, none⟩ = some (.slice (some ⟨b, o, none⟩) keys.length e4) ∧ W.cell? ⟨b, o + (j + 1), none⟩ = some (.string kb) ∧ W.cell? ⟨b, o + j, none⟩ = some (.string ka) from hSw); go_simp; with_reducible rfl
      simp only [Act.put, List.setIfInBounds_toArray, List.set_cons_zero, List.set_cons_succ]
      refine HT.take 5 (v := ?_) rfl (by kernel_rfl) (fun _ _ _ h => h) (Or.inl ⟨by rfl, ?_⟩) (by assumption) ?_
      rotate_left
      · intro W hSw; rw [← hS] at hSw; obtain ⟨s0, s1, s2⟩ := (show W.cell? ⟨w.heap.size, 2, none⟩ = some (.slice (some ⟨b, o, none⟩) keys.length e4) ∧ W.cell? ⟨b, o + (j + 1), none⟩ = some (.string kb) ∧ W.cell? ⟨b, o + j, none⟩ = some (.string ka) from hSw); go_simp; with_reducible rfl
      simp only [Act.put, List.setIfInBounds_toArray, List.set_cons_zero, List.set_cons_succ]
      refine HT.take 6 (v := ?_) rfl (by kernel_rfl) (fun _ _ _ h => h) (Or.inl ⟨by rfl, ?_⟩) (by assumption) ?_
      rotate_left
      · intro W hSw; rw [← hS] at hSw; obtain ⟨s0, s1, s2⟩ := (show W.cell? ⟨w.heap.size, 2, none⟩ = some (.slice (some ⟨b, o, none⟩) keys.length e4) ∧ W.cell? ⟨b, o + (j + 1), none⟩ = some (.string kb) ∧ W.cell? ⟨b, o + j, none⟩ = some (.string ka) from hSw); go_simp; with_reducible rfl
      simp only [Act.put, List.setIfInBounds_toArray, List.set_cons_zero, List.set_cons_succ]
      refine HT.take 7 (v := ?_) rfl (by kernel_rfl) (fun _ _ _ h => h) (Or.inl ⟨by rfl, ?_⟩) (by assumption) ?_
      rotate_left
      · intro W hSw; rw [← hS] at hSw; obtain ⟨s0, s1, s2⟩ := (show W.cell? ⟨w.heap.size, 2, none⟩ = some (.slice (some ⟨b, o, none⟩) keys.length e4) ∧ W.cell? ⟨b, o + (j + 1), none⟩ = some (.string kb) ∧ W.cell? ⟨b, o + j, none⟩ = some (.string ka) from hSw); go_simp; with_reducible rfl
      simp only [Act.put, List.setIfInBounds_toArray, List.set_cons_zero, List.set_cons_succ]
      refine HT.take 8 (v := ?_) rfl (by kernel_rfl) (fun _ _ _ h => h) (Or.inl ⟨by rfl, ?_⟩) (by assumption) ?_
      rotate_left
      · intro W hSw; rw [← hS] at hSw; obtain ⟨s0, s1, s2⟩ := (show W.cell? ⟨w.heap.size, 2, none⟩ = some (.slice (some ⟨b, o, none⟩) keys.length e4) ∧ W.cell? ⟨b, o + (j + 1), none⟩ = some (.string kb) ∧ W.cell? ⟨b, o + j, none⟩ = some (.string ka) from hSw); go_simp; with_reducible rfl
      simp only [Act.put, List.setIfInBounds_toArray, List.set_cons_zero, List.set_cons_succ]
      refine HT.take 9 (v := ?_) rfl (by kernel_rfl) (fun _ _ _ h => h) (Or.inl ⟨by rfl, ?_⟩) (by assumption) ?_
      rotate_left
      · intro W hSw; rw [← hS] at hSw; obtain ⟨s0, s1, s2⟩ := (show W.cell? ⟨w.heap.size, 2, none⟩ = some (.slice (some ⟨b, o, none⟩) keys.length e4) ∧ W.cell? ⟨b, o + (j + 1), none⟩ = some (.string kb) ∧ W.cell? ⟨b, o + j, none⟩ = some (.string ka) from hSw); go_simp; with_reducible rfl
      simp only [Act.put, List.setIfInBounds_toArray, List.set_cons_zero, List.set_cons_succ]
      refine HT.take 10 (v := ?_) rfl (by kernel_rfl) (fun _ _ _ h => h) (Or.inl ⟨by rfl, ?_⟩) (by assumption) ?_
      rotate_left
      · intro W hSw; rw [← hS] at hSw; obtain ⟨s0, s1, s2⟩ := (show W.cell? ⟨w.heap.size, 2, none⟩ = some (.slice (some ⟨b, o, none⟩) keys.length e4) ∧ W.cell? ⟨b, o + (j + 1), none⟩ = some (.string kb) ∧ W.cell? ⟨b, o + j, none⟩ = some (.string ka) from hSw); go_simp; with_reducible rfl
      simp only [Act.put, List.setIfInBounds_toArray, List.set_cons_zero, List.set_cons_succ]
      refine HT.one 11 rfl (by kernel_rfl) (by rfl) (fun K hK => ?_)
      go_simp
      refine (Hcall.out wr.drew).mono ?_
      rintro e w5 ⟨rfl, hb5⟩
      have hb5' : Below wr.heap.size wr w5 := below_drew' hb5
      have eb := (bcell hb5').1
      go_simp
      refine hK.out _ _ (by rw [← hS]; exact ⟨(eb _ _ (by omega)).trans q2, (eb _ _ (by omega)).trans hc0, (eb _ _ (by omega)).trans hc1⟩) ?_
      clear hK
      refine HT.done (by kernel_rfl) ?_
      simp only [List.drop_succ_cons, List.drop_zero]
      have Hb5 := hide (Hb.out.trans (hb5'.mono Hb.out.size))
      clear hS0 hS hb5 hb5' eb
      by_cases hx0 : 0 ≤ x
      · have Hfin := hide (H0.out.2.trans (Hb5.out.mono H0.out.2.size))
        go_wp2_with fail
        go_ret
        exact ⟨false, rfl, (fun h => Bool.noConfusion h), Hfin.out⟩
      · have hkl : klt ka kb = true := cmpS_neg.1 (by rw [Hx.out]; omega)
        have Hkl := hide hkl
        clear hkl
        go_wp2_with fail
        exact ⟨⟨j + 1 + 1, by go_num, by omega, .inl hlt, Hsn.out Hkl.out, Hb5.out⟩, by simp [intOf]; omega⟩
    · have hall : SortK keys := by
        rcases hi2 with h | h
        · rw [List.take_of_length_le (by omega)] at hs
          exact hs
        · subst h
          have hl : keys.length ≤ 1 := by omega
          rw [List.take_of_length_le hl] at hs
          exact hs
      have Hfin := hide (And.intro hall (H0.out.2.trans (hb.mono H0.out.2.size)))
      have hki2 : ¬ (i : Int) < (keys.length : Int) := by omega
      clear hs hb hB hi2 hall
      go_wp2
      go_ret
      exact ⟨true, rfl, fun _ => Hfin.out.1, Hfin.out.2⟩

end Go.Proofs.YtajeghkjppkhcaaGreat

/-!
  The reference's OrderlyElem; laws.zzFits13.
-/

namespace Go.Proofs.YtajeghkjppkhcaaGreat
open Go.RowKit
attribute [local go_sem] run_store_float

theorem sorted_of_sortK {α : Type} {l : List (ByteArray × α)} (h : SortK (l.map Prod.fst)) : Sorted l := List.pairwise_map.1 h

theorem tree_toRV_all {l : List T} (h : ∀ t ∈ l, t.WS) : (l.map T.toRV).map RV.tree = l := by
  rw [List.map_map]
  conv => rhs; rw [← List.map_id l]
  exact List.map_congr_left fun t ht => toRV_tree (h t ht)
theorem zip_fst_snd {α β : Type} (l : List (α × β)) : (l.map Prod.fst).zip (l.map Prod.snd) = l := by
  induction l with
  | nil => rfl
  | cons p l ih => rw [List.map_cons, List.map_cons, List.zip_cons_cons, ih]
/-- what a step's parts must be for it to be orderly -/
theorem elem_ok (r : REl) (hv : r.elem.toREl.v.tree.Ok) (hl : ∀ (i : Nat) x, i < r.elem.toREl.l.length → r.elem.toREl.l[i]? = some x → x.tree.Ok) (hk : SortK r.elem.toREl.elem.toREl.keys) : r.elem.Ok := by
  by_cases h1 : r.kind = 1
  · have he : r.elem = .key (r.keys.zip (r.l.map RV.tree)) := by unfold REl.elem; rw [if_pos h1]
    have hws : ∀ k t, (k, t) ∈ r.keys.zip (r.l.map RV.tree) → t.WS := by
      intro k t h
      have h2 := (List.of_mem_zip h).2
      obtain ⟨x, -, rfl⟩ := List.mem_map.1 h2
      exact tree_ws x
    rw [he] at hl hk ⊢
    generalize r.keys.zip (r.l.map RV.tree) = l at *
    have hsnd : (l.map fun p => p.2.toRV).map RV.tree = l.map Prod.snd := by
      have := tree_toRV_all (l := l.map Prod.snd) fun t ht => by
        obtain ⟨p, hp, rfl⟩ := List.mem_map.1 ht
        exact hws p.1 p.2 hp
      simpa using this
    have hel : (E.key l).toREl.elem = .key l := by
      have : (E.key l).toREl.elem = .key ((l.map Prod.fst).zip ((l.map fun p => p.2.toRV).map RV.tree)) := by
        unfold REl.elem
        exact if_pos rfl
      rw [this, hsnd, zip_fst_snd]
    rw [hel] at hk
    have hk : SortK (l.map Prod.fst) := hk
    refine .key (sorted_of_sortK hk) (.map fun k t h => ?_)
    obtain ⟨i, hi, e⟩ := List.getElem_of_mem h
    have := hl i ((l.map fun p => p.2.toRV)[i]'(by simpa using hi)) (by simpa [E.toREl] using hi) (by simp [E.toREl, hi])
    rw [List.getElem_map, e, toRV_tree (hws k t h)] at this
    exact this
  · by_cases h2 : r.kind = 2
    · have he : r.elem = .val r.v.tree := by unfold REl.elem; rw [if_neg h1, if_pos h2]
      rw [he] at hv ⊢
      simp only [E.toREl] at hv
      rw [toRV_tree (tree_ws r.v)] at hv
      exact .val hv
    · by_cases h3 : r.kind = 3
      · have he : r.elem = .idx r.n := by unfold REl.elem; rw [if_neg h1, if_neg h2, if_pos h3]
        rw [he]
        exact .idx _
      · have he : r.elem = .field r.s := by unfold REl.elem; rw [if_neg h1, if_neg h2, if_neg h3]
        rw [he]
        exact .field _

theorem ElemAt.listing {F : Nat → Prop} {w : World} {r : REl} {a b c d e f g h i : Value} {KA LA : Option Addr} {kn kc ln lc : Nat} (hr : ElemAt F w r [a, b, .slice KA kn kc, .slice LA ln lc, c, d, e, f, g, h, i]) :
    RVAt F w (LRV r.l) [.int .i64 5, .int .i64 0, .float .f64 0, .string ⟨#[]⟩, .slice none 0 0, .slice LA r.l.length lc] := by
  cases hr with
  | mk h1 h2 h3 h4 h5 => exact h3.listOf
theorem ElemAt.value {F : Nat → Prop} {w : World} {r : REl} {a b k l c d e f g h i : Value} (hr : ElemAt F w r [a, b, k, l, c, d, e, f, g, h, i]) : RVAt F w r.v [c, d, e, f, g, h] := by
  cases hr with
  | mk h1 h2 h3 h4 h5 => exact h4

set_option maxRecDepth 100000 in
set_option maxHeartbeats 4000000 in
theorem orderlyElem_calls (r : REl) (w : World) (cs : List Value) (h : ElemAt (Old w) w r cs) : Calls Tryz.prog 30 #[.agg cs.toArray] w (OrdPost r.elem.Ok w) := by
  have H := hide fun (W : World) (hb : Below w.heap.size w W) => cleanElem_calls r W _ (h.at_ hb)
  have Hok := hide (elem_ok r)
  generalize r.elem = E0 at *
  obtain ⟨r', hr'⟩ : ∃ r', E0.toREl = r' := ⟨_, rfl⟩
  rw [hr'] at H Hok
  clear hr'
  generalize E0.Ok = P at *
  obtain ⟨a0, a1, a2, a3, a4, a5, a6, a7, a8, a9, aa, ab, ac, ad, ae, af, ag, ah, ai, rfl⟩ := h.form
  clear h
  go_enter Tryz.func30, Tryz.ntmps30
  go_wp2_with fail
  have hb0 : Below w.heap.size w (w.alloc (.cells #[.int .i64 a0, .string a1, .slice a2 a3 a4, .slice a5 a6 a7, .int .i64 a8, .int .i64 a9, .float .f64 aa, .string ab, .slice ac ad ae, .slice af ag ah, .int .i64 ai] 33)) := (Below.refl _ _).alloc (Nat.le_refl _) _
  have hB0 := Bk.new w 33 #[.int .i64 a0, .string a1, .slice a2 a3 a4, .slice a5 a6 a7, .int .i64 a8, .int .i64 a9, .float .f64 aa, .string ab, .slice ac ad ae, .slice af ag ah, .int .i64 ai]
  generalize World.alloc _ _ = W at hb0 hB0 ⊢
  refine (H.out _ hb0).mono ?_
  rintro e w1 ⟨es, rfl, hes, hb1⟩
  obtain ⟨e0, e1, e2, e3, e4, e5, e6, e7, e8, e9, ea, eb, ec, ed, ee, ef, eg, eh, ei, rfl⟩ := hes.form
  have hB1 := hB0.below hb1 hB0.lt
  have hbw := hb0.trans (hb1.mono hb0.size)
  have hgl := hB0.lt
  have hes := hes.mono (G := fun b => w.heap.size + 1 ≤ b ∧ b < w1.heap.size) fun b hb => ⟨by have := hb.1; omega, hb.2⟩
  obtain ⟨rfl, rfl, -, -, -⟩ := hes.rows
  have fz : ∀ i, w1.frozen? ⟨w.heap.size, i, none⟩ = false := fun i => hB1.free i
  obtain ⟨p0, p1, p2, p3, p4, p5, p6, p7, p8, p9, p10⟩ := hB1.cells11
  have hset := set11_same (h := hB1) (c0 := .int .i64 e0) (c1 := .string e1) (c2 := .slice e2 r'.keys.length e4) (c3 := .slice e5 r'.l.length e7) (c4 := .int .i64 e8) (c5 := .int .i64 e9) (c6 := .float .f64 ea) (c7 := .string eb) (c8 := .slice ec ed ee) (c9 := .slice ef eg eh) (c10 := .int .i64 ei)
  have hsb := set11_below (.int .i64 e0) (.string e1) (.slice e2 r'.keys.length e4) (.slice e5 r'.l.length e7) (.int .i64 e8) (.int .i64 e9) (.float .f64 ea) (.string eb) (.slice ec ed ee) (.slice ef eg eh) (.int .i64 ei) hbw (Nat.le_refl w.heap.size)
  have hsh := fun b (hb : b ≠ w.heap.size) => set11_heap w1 w.heap.size (.int .i64 e0) (.string e1) (.slice e2 r'.keys.length e4) (.slice e5 r'.l.length e7) (.int .i64 e8) (.int .i64 e9) (.float .f64 ea) (.string eb) (.slice ec ed ee) (.slice ef eg eh) (.int .i64 ei) b hb
  have hsz := set11_size w1 w.heap.size (.int .i64 e0) (.string e1) (.slice e2 r'.keys.length e4) (.slice e5 r'.l.length e7) (.int .i64 e8) (.int .i64 e9) (.float .f64 ea) (.string eb) (.slice ec ed ee) (.slice ef eg eh) (.int .i64 ei)
  have hes2 := (hes.keeps (w' := set11 w1 w.heap.size (.int .i64 e0) (.string e1) (.slice e2 r'.keys.length e4) (.slice e5 r'.l.length e7) (.int .i64 e8) (.int .i64 e9) (.float .f64 ea) (.string eb) (.slice ec ed ee) (.slice ef eg eh) (.int .i64 ei)) fun b hb => hsh b (by have := hb.1; omega)).mono (G := Old (set11 w1 w.heap.size (.int .i64 e0) (.string e1) (.slice e2 r'.keys.length e4) (.slice e5 r'.l.length e7) (.int .i64 e8) (.int .i64 e9) (.float .f64 ea) (.string eb) (.slice ec ed ee) (.slice ef eg eh) (.int .i64 ei))) fun b hb => by rw [Old, hsz]; exact hb.2
  unfold set11 at hset hsb hes2
  have Hx := hide (And.intro hset (And.intro hsb hes2))
  clear hes hB0 hB1 hb0 hbw hset hsb hsh hsz hes2 hb1
  go_upto_region 2 with fail
  have hx := Hx.out
  clear Hx fz p0 p1 p2 p3 p4 p5 p6 p7 p8 p9 p10
  generalize World.setCell _ _ _ = W2 at hx ⊢
  obtain ⟨hset, hsb, hes⟩ := hx
  have HV := hide (hes.value)
  have HL := hide fun (W : World) (hb : Below W2.heap.size W2 W) => orderlyValues_calls r'.l _ _ W (hes.listing.at_ hb)
  have HK := hide fun (W : World) (hb : Below W2.heap.size W2 W) => keySorted_calls r' W _ (hes.at_ hb)
  have HO := hide (orderly_all r'.v)
  obtain ⟨p0, p1, p2, p3, p4, p5, p6, p7, p8, p9, p10⟩ := hset.cells11
  have hgl := hset.lt
  have H0 := hide (And.intro hset hsb)
  clear hset hsb hes
  generalize r'.l = l at *
  generalize r'.keys.length = kn at *
  go_wp2_with fail
  refine (HO.out _ _ HV.out).mono ?_
  rintro e w3 ⟨b, rfl, hb, hb3⟩
  have hB3 := H0.out.1.below hb3 H0.out.1.lt
  obtain ⟨p0, p1, p2, p3, p4, p5, p6, p7, p8, p9, p10⟩ := hB3.cells11
  have H3 := hide (And.intro hb hb3)
  have Hfin := hide (H0.out.2.trans (hb3.mono H0.out.2.size))
  clear hb hb3 hB3
  cases b
  · go_wp2_with fail
    go_ret
    exact ⟨false, rfl, (fun h => Bool.noConfusion h), Hfin.out⟩
  clear Hfin
  go_wp2_with fail
  refine (HL.out _ H3.out.2).mono ?_
  rintro e w4 ⟨b, rfl, hb, hb4⟩
  have hb4 := H3.out.2.trans (hb4.mono H3.out.2.size)
  have hB3 := H0.out.1.below hb4 H0.out.1.lt
  obtain ⟨p0, p1, p2, p3, p4, p5, p6, p7, p8, p9, p10⟩ := hB3.cells11
  have H4 := hide (And.intro hb hb4)
  have Hfin := hide (H0.out.2.trans (hb4.mono H0.out.2.size))
  clear hb hb4 hB3
  cases b
  · go_wp2_with fail
    go_ret
    exact ⟨false, rfl, (fun h => Bool.noConfusion h), Hfin.out⟩
  clear Hfin
  go_wp2_with fail
  refine (HK.out _ H4.out.2).mono ?_
  rintro e w5 ⟨b, rfl, hb, hb5⟩
  have Hb := hide (And.intro hb (H0.out.2.trans ((H4.out.2.trans (hb5.mono H4.out.2.size)).mono H0.out.2.size)))
  clear hb hb5
  go_wp2_with fail
  go_ret
  exact ⟨b, rfl, fun h => Hok.out (H3.out.1 trivial) (H4.out.1 trivial) (Hb.out.1 h), Hb.out.2⟩

/-- a bound that may hold or not -/
def AnyB (w : World) (e : Ending) (w' : World) : Prop := (∃ b, e = .returned (.bool b)) ∧ Below w.heap.size w w'

set_option maxRecDepth 100000 in
set_option maxHeartbeats 4000000 in
theorem zzFits13_calls (r : REl) (w : World) (cs : List Value) (h : ElemAt (Old w) w r cs) : Calls Tryz.prog 20 #[.agg cs.toArray] w (AnyB w) := by
  have hst : r.s.size ≤ 140737488351232 := by
    cases h with
    | mk h1 h2 h3 h4 h5 => exact h2
  have hll : r.l.length ≤ 8796093022208 := by
    cases h with
    | mk h1 h2 h3 h4 h5 =>
      cases h3 with
      | mk g1 g2 g3 g4 g5 g6 g7 => unfold R47 at g7; simp only; omega
  obtain ⟨a0, a1, a2, a3, a4, a5, a6, a7, a8, a9, aa, ab, ac, ad, ae, af, ag, ah, ai, rfl⟩ := h.form
  have hs : a1 = r.s := by cases h; rfl
  obtain ⟨rfl, rfl, h16, hks, hrow⟩ := h.rows
  subst hs
  have HK := hide fun (W : World) (hb : Below w.heap.size w W) => zzFits2_calls r.keys a2 a4 W h16 hks ((hrow.keeps (Keeps.below hb fun _ h => h)).mono fun _ h => Nat.lt_of_lt_of_le h hb.size)
  clear h h16 hks hrow
  generalize r.keys = keys at *
  generalize r.l = l at *
  generalize r.s = s at *
  by_cases hsz : (s.size : Int) ≤ 2147483647
  case neg =>
    go_enter Tryz.func20, Tryz.ntmps20
    go_wp2
    go_ret
    exact ⟨⟨_, rfl⟩, (Below.refl _ _).alloc (Nat.le_refl _) _⟩
  go_enter Tryz.func20, Tryz.ntmps20
  go_wp2_with fail
  have hb0 : Below w.heap.size w (w.alloc (.cells #[.int .i64 a0, .string s, .slice a2 keys.length a4, .slice a5 l.length a7, .int .i64 a8, .int .i64 a9, .float .f64 aa, .string ab, .slice ac ad ae, .slice af ag ah, .int .i64 ai] 33)) := (Below.refl _ _).alloc (Nat.le_refl _) _
  have hB0 := Bk.new w 33 #[.int .i64 a0, .string s, .slice a2 keys.length a4, .slice a5 l.length a7, .int .i64 a8, .int .i64 a9, .float .f64 aa, .string ab, .slice ac ad ae, .slice af ag ah, .int .i64 ai]
  generalize World.alloc _ _ = W at hb0 hB0 ⊢
  refine (HK.out _ hb0).mono ?_
  rintro e w1 ⟨b, rfl, -, hb1⟩
  have hB1 := hB0.below hb1 hB0.lt
  obtain ⟨p0, p1, p2, p3, p4, p5, p6, p7, p8, p9, p10⟩ := hB1.cells11
  have Hb := hide (hb0.trans (hb1.mono hb0.size))
  clear hb0 hB0 hb1 hB1
  cases b
  · go_wp2
    go_ret
    exact ⟨⟨_, rfl⟩, Hb.out⟩
  by_cases hlz : (l.length : Int) ≤ 2147483647
  · go_wp2
    go_ret
    exact ⟨⟨_, rfl⟩, Hb.out⟩
  · go_wp2
    go_ret
    exact ⟨⟨_, rfl⟩, Hb.out⟩

end Go.Proofs.YtajeghkjppkhcaaGreat
