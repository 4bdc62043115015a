/-
  The reference's CleanElem, KeySorted, OrderlyElem.
-/
import Derived.Test.YtajeghkjppkhcaaGreatElemCI
import Derived.Test.YtajeghkjppkhcaaGreatListing
set_option linter.unusedVariables false
set_option linter.unusedSimpArgs false
namespace Go.Proofs.YtajeghkjppkhcaaGreat
open Go.RowKit
attribute [local go_sem] run_store_float

def set11 (w : World) (g : Nat) (c0 c1 c2 c3 c4 c5 c6 c7 c8 c9 c10 : Value) : World := ((((((((((w.setCell ⟨g, 0, none⟩ c0).setCell ⟨g, 1, none⟩ c1).setCell ⟨g, 2, none⟩ c2).setCell ⟨g, 3, none⟩ c3).setCell ⟨g, 4, none⟩ c4).setCell ⟨g, 5, none⟩ c5).setCell ⟨g, 6, none⟩ c6).setCell ⟨g, 7, none⟩ c7).setCell ⟨g, 8, none⟩ c8).setCell ⟨g, 9, none⟩ c9).setCell ⟨g, 10, none⟩ c10
theorem set11_same {w : World} {g : Nat} {t : TypeId} {a0 a1 a2 a3 a4 a5 a6 a7 a8 a9 a10 : Value} (c0 c1 c2 c3 c4 c5 c6 c7 c8 c9 c10 : Value) (h : Bk w g t #[a0, a1, a2, a3, a4, a5, a6, a7, a8, a9, a10]) : Bk (set11 w g c0 c1 c2 c3 c4 c5 c6 c7 c8 c9 c10) g t #[c0, c1, c2, c3, c4, c5, c6, c7, c8, c9, c10] := by
  have := ((((((((((h.set_ 0 c0).set_ 1 c1).set_ 2 c2).set_ 3 c3).set_ 4 c4).set_ 5 c5).set_ 6 c6).set_ 7 c7).set_ 8 c8).set_ 9 c9).set_ 10 c10
  simpa [set11] using this
theorem set11_heap (w : World) (g : Nat) (c0 c1 c2 c3 c4 c5 c6 c7 c8 c9 c10 : Value) (x : Nat) (h : x ≠ g) : (set11 w g c0 c1 c2 c3 c4 c5 c6 c7 c8 c9 c10).heap[x]? = w.heap[x]? := by
  unfold set11
  rw [Below.heap_setCell _ _ _ _ h, Below.heap_setCell _ _ _ _ h, Below.heap_setCell _ _ _ _ h, Below.heap_setCell _ _ _ _ h, Below.heap_setCell _ _ _ _ h, Below.heap_setCell _ _ _ _ h, Below.heap_setCell _ _ _ _ h, Below.heap_setCell _ _ _ _ h, Below.heap_setCell _ _ _ _ h, Below.heap_setCell _ _ _ _ h, Below.heap_setCell _ _ _ _ h]
theorem set11_size (w : World) (g : Nat) (c0 c1 c2 c3 c4 c5 c6 c7 c8 c9 c10 : Value) : (set11 w g c0 c1 c2 c3 c4 c5 c6 c7 c8 c9 c10).heap.size = w.heap.size := by simp [set11]
theorem set11_below {a w : World} {B g : Nat} (c0 c1 c2 c3 c4 c5 c6 c7 c8 c9 c10 : Value) (h : Below B a w) (hB : B ≤ g) : Below B a (set11 w g c0 c1 c2 c3 c4 c5 c6 c7 c8 c9 c10) := ((((((((((h.setCell hB c0).setCell hB c1).setCell hB c2).setCell hB c3).setCell hB c4).setCell hB c5).setCell hB c6).setCell hB c7).setCell hB c8).setCell hB c9).setCell hB c10


/-- a step's struct handed back; its memory is new -/
def GivesEl (r : REl) (w : World) (e : Ending) (w' : World) : Prop := ∃ cs : List Value, e = .returned (.agg cs.toArray) ∧ ElemAt (Fr w.heap.size w') w' r cs ∧ Below w.heap.size w w'

theorem el_ret {fn : Func} {p : Tmp} (hfn : fn.results = #[.cell p 33]) (tmps : Array Value) {w w1 : World} {r : REl} {c0 c1 c2 c3 c4 c5 c6 c7 c8 c9 c10 a0 a1 a2 a3 a4 a5 a6 a7 a8 a9 a10 : Value} (hR : Bk w1 (w.heap.size + 1) 33 #[a0, a1, a2, a3, a4, a5, a6, a7, a8, a9, a10]) (hb : Below w.heap.size w w1)
    (hv : ElemAt (fun b => w.heap.size + 2 ≤ b ∧ b < w1.heap.size) w1 r [c0, c1, c2, c3, c4, c5, c6, c7, c8, c9, c10]) (hp : tmps.getD p undef = .pointer (some ⟨w.heap.size + 1, 0, none⟩)) :
    bodyPost Tryz.prog fn (GivesEl r w) .ret { tmps := tmps, defers := [] } (set11 w1 (w.heap.size + 1) c0 c1 c2 c3 c4 c5 c6 c7 c8 c9 c10) := by
  refine bodyPost_ret (results_cell_row hfn _ _ (w.heap.size + 1) 33 #[c0, c1, c2, c3, c4, c5, c6, c7, c8, c9, c10] (0, 0) _ hp (set11_same _ _ _ _ _ _ _ _ _ _ _ hR) Tryz.underlying33 rfl (by kernel_rfl)) rfl ?_
  exact ⟨_, rfl, (hv.keeps fun b hb => set11_heap _ _ _ _ _ _ _ _ _ _ _ _ _ _ (by have := hb.1; omega)).mono fun b hb => ⟨by have := hb.1; omega, by rw [set11_size]; exact hb.2⟩, set11_below _ _ _ _ _ _ _ _ _ _ _ hb (by omega)⟩

theorem zip_fst {α β : Type} : ∀ (a : List α) (b : List β), (a.zip b).map Prod.fst = a.take (min a.length b.length)
  | [], _ => by simp
  | _ :: _, [] => by simp
  | x :: a, y :: b => by
    rw [List.zip_cons_cons, List.map_cons, zip_fst a b, List.length_cons, List.length_cons, Nat.add_min_add_right, List.take_succ_cons]
theorem zip_snd {α β : Type} : ∀ (a : List α) (b : List β), (a.zip b).map Prod.snd = b.take (min a.length b.length)
  | [], _ => by simp
  | _ :: _, [] => by simp
  | x :: a, y :: b => by
    rw [List.zip_cons_cons, List.map_cons, zip_snd a b, List.length_cons, List.length_cons, Nat.add_min_add_right, List.take_succ_cons]
theorem zip_keys (keys : List ByteArray) (l : List RV) : (keys.zip (l.map RV.tree)).map Prod.fst = keys.take (min keys.length l.length) := by
  rw [zip_fst, List.length_map]
theorem zip_vals (keys : List ByteArray) (l : List RV) : (keys.zip (l.map RV.tree)).map (fun p => p.2.toRV) = (l.take (min keys.length l.length)).map fun r => r.tree.toRV := by
  have : (keys.zip (l.map RV.tree)).map (fun p => p.2.toRV) = ((keys.zip (l.map RV.tree)).map Prod.snd).map T.toRV := by simp
  rw [this, zip_snd, List.length_map, ← List.map_take, List.map_map]
  rfl

theorem vNull_at (F : Nat → Prop) (w : World) : RVAt F w vNull [.int .i64 0, .int .i64 0, .float .f64 0, .string ⟨#[]⟩, .slice none 0 0, .slice none 0 0] := RVAt.flat 0 0 0 ⟨#[]⟩ i0 i0 (by decide) (by decide)
theorem noRows_at (F : Nat → Prop) (w : World) : RVAt F w (.mk 0 0 0 ⟨#[]⟩ [] []) [.int .i64 0, .int .i64 0, .float .f64 0, .string ⟨#[]⟩, .slice none 0 0, .slice none 0 0] := vNull_at F w

set_option maxRecDepth 100000 in
set_option maxHeartbeats 4000000 in
theorem cleanElem_calls (r : REl) (w : World) (cs : List Value) (h : ElemAt (Old w) w r cs) : Calls Tryz.prog 57 #[.agg cs.toArray] w (GivesEl r.elem.toREl w) := by
  cases h with
  | @mk kind n s keys l v KA LA kc lc v0 v1 v2 v3 vA vB vn vc vm vd h1 h2 h3 h4 h5 =>
  have HV := hide fun (W : World) (hb : Below w.heap.size w W) => clean_calls v W _ (h4.at_ hb)
  have H := hide (And.intro h2 (And.intro h5 h3))
  clear h1 h2 h3 h4 h5
  have hb0 := below_two w (.cells #[.int .i64 kind, .string s, .slice KA keys.length kc, .slice LA l.length lc, .int .i64 v0, .int .i64 v1, .float .f64 v2, .string v3, .slice vA vn vc, .slice vB vm vd, .int .i64 n] 33) (.cells #[.int .i64 0, .string ⟨#[]⟩, .slice none 0 0, .slice none 0 0, .int .i64 0, .int .i64 0, .float .f64 0, .string ⟨#[]⟩, .slice none 0 0, .slice none 0 0, .int .i64 0] 33)
  have hbx := (Bk.new w 33 #[.int .i64 kind, .string s, .slice KA keys.length kc, .slice LA l.length lc, .int .i64 v0, .int .i64 v1, .float .f64 v2, .string v3, .slice vA vn vc, .slice vB vm vd, .int .i64 n]).alloc (.cells #[.int .i64 0, .string ⟨#[]⟩, .slice none 0 0, .slice none 0 0, .int .i64 0, .int .i64 0, .float .f64 0, .string ⟨#[]⟩, .slice none 0 0, .slice none 0 0, .int .i64 0] 33)
  have hR := Bk.new (w.alloc (.cells #[.int .i64 kind, .string s, .slice KA keys.length kc, .slice LA l.length lc, .int .i64 v0, .int .i64 v1, .float .f64 v2, .string v3, .slice vA vn vc, .slice vB vm vd, .int .i64 n] 33)) 33 #[.int .i64 0, .string ⟨#[]⟩, .slice none 0 0, .slice none 0 0, .int .i64 0, .int .i64 0, .float .f64 0, .string ⟨#[]⟩, .slice none 0 0, .slice none 0 0, .int .i64 0]
  rw [World.size_alloc] at hR
  have H0 := hide (And.intro hb0 (And.intro hbx hR))
  clear hb0 hbx hR
  by_cases k1 : kind = 1
  · subst k1
    have he : (REl.elem ⟨1, s, keys, l, v, n⟩).toREl = ⟨1, ⟨#[]⟩, keys.take (min keys.length l.length), (l.take (min keys.length l.length)).map (fun r => r.tree.toRV), vNull, 0⟩ := by
      simp only [REl.elem, if_pos, E.toREl, zip_keys, zip_vals]
    rw [he]
    clear he
    go_enter Tryz.func57, Tryz.ntmps57
    obtain ⟨m, hm, hmm, hm1, hm2⟩ : ∃ m : Nat, (if l.length < keys.length then (l.length : Int) else (keys.length : Int)) = (m : Int) ∧ min keys.length l.length = m ∧ m ≤ keys.length ∧ m ≤ l.length := by
      split
      · exact ⟨l.length, rfl, by omega, by omega, by omega⟩
      · exact ⟨keys.length, rfl, by omega, by omega, by omega⟩
    rw [hmm]
    have Hm := hide hm
    clear hm hmm
    obtain ⟨i9, hi9, hz9, hs9, hb9⟩ := info_parts str_info
    have hrows := H.out.2.2
    cases hrows with
    | @mk _ _ _ _ _ _ _ _ _ _ xs g1 g2 g3 g4 g5 g6 g7 g8 g9 g10 g11 hK hL hx =>
    have hkr := hK.take hm1
    have hlr := hL.take hm2
    have hkc : m ≤ kc := by omega
    have hlc : m ≤ lc := by omega
    have hki : (m : Int) ≤ (keys.length : Int) := by omega
    have hli : (m : Int) ≤ (l.length : Int) := by omega
    have hkci : (m : Int) ≤ (kc : Int) := by omega
    have hlci : (m : Int) ≤ (lc : Int) := by omega
    have hn1 : keys.length * 16 ≤ 140737488351232 := g6
    have hn2 : l.length * 88 ≤ 140737488351232 := g7
    have Hpl := hide fun (W : World) (hb : Below w.heap.size w W) => plainList_ok (l.take m) LA lc W (xs.take (m * 6)) (by rw [List.length_take]; unfold R47 at *; omega) (fun r hr => clean_calls r) (by rw [List.length_take, Nat.min_eq_left hm2]; exact (hlr.keeps (Keeps.below hb fun _ h => h)).mono fun _ h => Nat.lt_of_lt_of_le h hb.size) (fun i r hr => (by
        have hi : i < m := by
          have := (List.getElem?_eq_some_iff.1 hr).1
          simp only [List.length_take] at this
          omega
        rw [List.getElem?_take, if_pos hi] at hr
        have hi6 : i * 6 + 6 ≤ m * 6 := by omega
        rw [List.drop_take, List.take_take, Nat.min_eq_left (by omega)]
        exact (hx i r hr).at_ hb))
    have hlen : (l.take m).length = m := by rw [List.length_take]; omega
    rw [hlen] at Hpl
    have Hk := hide (And.intro hkr (And.intro g5 (And.intro hm1 hm2)))
    clear g1 g2 g3 g4 g5 g6 g7 g8 g9 g10 g11 hK hL hx hkr hlr hlen
    go_upto_region 4 with fail
    rw [Hm.out]
    have hb0 := H0.out.1
    have hbx := H0.out.2.1
    have hR := H0.out.2.2
    clear H0
    generalize World.alloc (World.alloc w _) _ = W at hb0 hbx hR ⊢
    have hS0 : Bk W.drew w.heap.size 33 #[.int .i64 1, .string s, .slice KA keys.length kc, .slice LA l.length lc, .int .i64 v0, .int .i64 v1, .float .f64 v2, .string v3, .slice vA vn vc, .slice vB vm vd, .int .i64 n] := hbx
    obtain ⟨S, hS⟩ : ∃ S, (fun W => Bk W w.heap.size 33 #[.int .i64 1, .string s, .slice KA keys.length kc, .slice LA l.length lc, .int .i64 v0, .int .i64 v1, .float .f64 v2, .string v3, .slice vA vn vc, .slice vB vm vd, .int .i64 n]) = S := ⟨_, rfl⟩
    have hS0 : S W.drew := by rw [← hS]; exact hS0
    have H0 := hide (And.intro hb0 (And.intro hbx hR))
    clear hb0 hbx hR
    refine wp_region_head 11 S (by rfl) (by kernel_rfl) ?_
    refine HT.take 1 (v := ?_) rfl (by kernel_rfl) (fun _ _ _ h => h) (Or.inl ⟨by rfl, ?_⟩) (by assumption) ?_
    rotate_left
    · intro W hSw; rw [← hS] at hSw; have hSw := show Bk W w.heap.size 33 #[.int .i64 1, .string s, .slice KA keys.length kc, .slice LA l.length lc, .int .i64 v0, .int .i64 v1, .float .f64 v2, .string v3, .slice vA vn vc, .slice vB vm vd, .int .i64 n] from hSw; obtain ⟨s0, s1, s2, s3, s4, s5, s6, s7, s8, s9, s10⟩ := hSw.cells11; clear hSw; go_simp; with_reducible rfl
    simp only [Act.put, List.setIfInBounds_toArray, List.set_cons_zero, List.set_cons_succ]
    refine HT.take 2 (v := ?_) rfl (by kernel_rfl) (fun _ _ _ h => h) (Or.inl ⟨by rfl, ?_⟩) (by assumption) ?_
    rotate_left
    · intro W hSw; rw [← hS] at hSw; have hSw := show Bk W w.heap.size 33 #[.int .i64 1, .string s, .slice KA keys.length kc, .slice LA l.length lc, .int .i64 v0, .int .i64 v1, .float .f64 v2, .string v3, .slice vA vn vc, .slice vB vm vd, .int .i64 n] from hSw; obtain ⟨s0, s1, s2, s3, s4, s5, s6, s7, s8, s9, s10⟩ := hSw.cells11; clear hSw; go_simp; with_reducible rfl
    simp only [Act.put, List.setIfInBounds_toArray, List.set_cons_zero, List.set_cons_succ]
    refine HT.take 3 (v := ?_) rfl (by kernel_rfl) (fun _ _ _ h => h) (Or.inl ⟨by rfl, ?_⟩) (by assumption) ?_
    rotate_left
    · intro W hSw; rw [← hS] at hSw; have hSw := show Bk W w.heap.size 33 #[.int .i64 1, .string s, .slice KA keys.length kc, .slice LA l.length lc, .int .i64 v0, .int .i64 v1, .float .f64 v2, .string v3, .slice vA vn vc, .slice vB vm vd, .int .i64 n] from hSw; obtain ⟨s0, s1, s2, s3, s4, s5, s6, s7, s8, s9, s10⟩ := hSw.cells11; clear hSw; go_simp; with_reducible rfl
    simp only [Act.put, List.setIfInBounds_toArray, List.set_cons_zero, List.set_cons_succ]
    refine HT.take 4 (v := ?_) rfl (by kernel_rfl) (fun _ _ _ h => h) (Or.inl ⟨by rfl, ?_⟩) (by assumption) ?_
    rotate_left
    · intro W hSw; rw [← hS] at hSw; have hSw := show Bk W w.heap.size 33 #[.int .i64 1, .string s, .slice KA keys.length kc, .slice LA l.length lc, .int .i64 v0, .int .i64 v1, .float .f64 v2, .string v3, .slice vA vn vc, .slice vB vm vd, .int .i64 n] from hSw; obtain ⟨s0, s1, s2, s3, s4, s5, s6, s7, s8, s9, s10⟩ := hSw.cells11; clear hSw; go_simp; with_reducible rfl
    simp only [Act.put, List.setIfInBounds_toArray, List.set_cons_zero, List.set_cons_succ]
    refine HT.take 6 (v := ?_) rfl (by kernel_rfl) (fun _ _ _ h => h) (Or.inl ⟨by rfl, ?_⟩) (by assumption) ?_
    rotate_left
    · intro W hSw; rw [← hS] at hSw; have hSw := show Bk W w.heap.size 33 #[.int .i64 1, .string s, .slice KA keys.length kc, .slice LA l.length lc, .int .i64 v0, .int .i64 v1, .float .f64 v2, .string v3, .slice vA vn vc, .slice vB vm vd, .int .i64 n] from hSw; obtain ⟨s0, s1, s2, s3, s4, s5, s6, s7, s8, s9, s10⟩ := hSw.cells11; clear hSw; go_simp; with_reducible rfl
    simp only [Act.put, List.setIfInBounds_toArray, List.set_cons_zero, List.set_cons_succ]
    refine HT.take 7 (v := ?_) rfl (by kernel_rfl) (fun _ _ _ h => h) (Or.inl ⟨by rfl, ?_⟩) (by assumption) ?_
    rotate_left
    · intro W hSw; rw [← hS] at hSw; have hSw := show Bk W w.heap.size 33 #[.int .i64 1, .string s, .slice KA keys.length kc, .slice LA l.length lc, .int .i64 v0, .int .i64 v1, .float .f64 v2, .string v3, .slice vA vn vc, .slice vB vm vd, .int .i64 n] from hSw; obtain ⟨s0, s1, s2, s3, s4, s5, s6, s7, s8, s9, s10⟩ := hSw.cells11; clear hSw; go_simp; with_reducible rfl
    simp only [Act.put, List.setIfInBounds_toArray, List.set_cons_zero, List.set_cons_succ]
    refine HT.take 8 (v := ?_) rfl (by kernel_rfl) (fun _ _ _ h => h) (Or.inl ⟨by rfl, ?_⟩) (by assumption) ?_
    rotate_left
    · intro W hSw; rw [← hS] at hSw; have hSw := show Bk W w.heap.size 33 #[.int .i64 1, .string s, .slice KA keys.length kc, .slice LA l.length lc, .int .i64 v0, .int .i64 v1, .float .f64 v2, .string v3, .slice vA vn vc, .slice vB vm vd, .int .i64 n] from hSw; obtain ⟨s0, s1, s2, s3, s4, s5, s6, s7, s8, s9, s10⟩ := hSw.cells11; clear hSw; go_simp; with_reducible rfl
    simp only [Act.put, List.setIfInBounds_toArray, List.set_cons_zero, List.set_cons_succ]
    refine HT.take 9 (v := ?_) rfl (by kernel_rfl) (fun _ _ _ h => h) (Or.inl ⟨by rfl, ?_⟩) (by assumption) ?_
    rotate_left
    · intro W hSw; rw [← hS] at hSw; have hSw := show Bk W w.heap.size 33 #[.int .i64 1, .string s, .slice KA keys.length kc, .slice LA l.length lc, .int .i64 v0, .int .i64 v1, .float .f64 v2, .string v3, .slice vA vn vc, .slice vB vm vd, .int .i64 n] from hSw; obtain ⟨s0, s1, s2, s3, s4, s5, s6, s7, s8, s9, s10⟩ := hSw.cells11; clear hSw; go_simp; with_reducible rfl
    simp only [Act.put, List.setIfInBounds_toArray, List.set_cons_zero, List.set_cons_succ]
    refine HT.one 0 rfl (by kernel_rfl) (by rfl) (fun K hK => ?_)
    go_simp
    have hbW : Below W.heap.size W (W.drew.alloc (.cells #[] 9)) := (below_drew (Below.refl _ _)).alloc (Nat.le_refl _) _
    have hownE := World.ownsRow_lit (base := W.heap.size) (e := 9) (size := 1) W.drew #[] 0 (Nat.le_refl _) (by simp [maxLen]) (by simp)
    have hlW : w.heap.size + 2 ≤ W.heap.size := H0.out.2.2.lt
    refine hK.out _ _ (by rw [← hS]; exact H0.out.2.1.below hbW (by omega)) ?_
    clear hK
    refine HT.one 5 rfl (by kernel_rfl) (by rfl) (fun K hK => ?_)
    have hkW : Row (Old w) (W.drew.alloc (.cells #[] 9)) 1 KA m ((keys.take m).map Value.string) := by
      have := Hk.out.1
      rw [Nat.mul_one, ← List.map_take] at this
      exact this.keeps (Keeps.below (H0.out.1.trans (hbW.mono H0.out.1.size)) fun _ h => h)
    refine wp_append_row _ (.tmp 15) (.tmp 19) 28 rfl W.heap.size 9 i9 _ 1 16 Tryz.underlying28 hi9 hz9 hs9 hb9 rfl (by omega) _ 0 [] rfl hownE (Old w) KA m kc ((keys.take m).map Value.string) rfl hkW (fun u hu => by obtain ⟨k, _, rfl⟩ := List.mem_map.1 hu; rfl) (by omega) (by omega) (by simp [World.drew]) ?_
    intro vk w1 hownK hgK hatK
    rw [Nat.zero_add, List.nil_append] at hownK
    have hbW1 : Below W.heap.size W w1 := hbW.grown hgK hbW.size (fun g e => (hownE.lt g e).1)
    go_simp
    refine hK.out _ _ (by rw [← hS]; exact H0.out.2.1.below hbW1 (by omega)) ?_
    clear hK
    refine HT.one 10 rfl (by kernel_rfl) (by rfl) (fun K hK => ?_)
    go_simp
    refine (Hpl.out w1 (H0.out.1.trans (hbW1.mono H0.out.1.size))).mono ?_
    rintro e w2 ⟨LA', lc', ys, rfl, hl1, hl2, hlrow, hlrv, hb2⟩
    have hbW2 := hbW1.trans (hb2.mono hbW1.size)
    go_simp
    refine hK.out _ _ (by rw [← hS]; exact H0.out.2.1.below hbW2 (by omega)) ?_
    clear hK
    refine HT.done (by kernel_rfl) ?_
    simp only [List.drop_succ_cons, List.drop_zero]
    have hkm : (keys.take m).length = m := by rw [List.length_take]; exact Nat.min_eq_left Hk.out.2.2.1
    have hlm : ((l.take m).map fun r => r.tree.toRV).length = m := by rw [List.length_map, List.length_take]; exact Nat.min_eq_left Hk.out.2.2.2
    have hs12 := hb2.size
    have hs1 := hbW1.size
    have hown2 := ownsRow_below hownK hb2 (Nat.le_refl _)
    have hltK := hownK.lt
    obtain ⟨A, c, rfl, hc1, hc2⟩ := own_form hownK
    have hrv : RVAt (fun b => w.heap.size + 2 ≤ b ∧ b < w2.heap.size) w2 (.mk 0 0 0 ⟨#[]⟩ (keys.take m) ((l.take m).map fun r => r.tree.toRV)) [.int .i64 0, .int .i64 0, .float .f64 0, .string ⟨#[]⟩, .slice A (keys.take m).length c, .slice LA' ((l.take m).map fun r => r.tree.toRV).length lc'] :=
      RVAt.mk i0 i0 (by decide) (by decide) (fun k hk => Hk.out.2.1 k (List.mem_of_mem_take hk)) (by rw [hkm]; unfold R47; omega) (by rw [hlm]; unfold R47; omega) (by rw [hkm]; exact hc1) hc2 hl1 hl2
        (by rw [hkm]; exact Row.of_own hown2 fun g hg => ⟨by have := (hltK g hg).1; omega, by have := (hltK g hg).2; omega⟩) (hlrow.mono fun b hb => ⟨by have := hb.1; omega, hb.2⟩) (hlrv.mono fun b hb => ⟨by have := hb.1; omega, hb.2⟩).2
    have hel := ElemAt.mk (F := fun b => w.heap.size + 2 ≤ b ∧ b < w2.heap.size) (w := w2) (kind := 1) (n := 0) (s := ⟨#[]⟩) i1 (by decide) hrv (vNull_at _ _) i0
    rw [hkm, hlm] at hel
    have hR2 := H0.out.2.2.below hbW2 H0.out.2.2.lt
    have hbw2 := H0.out.1.trans (hbW2.mono H0.out.1.size)
    have hr11 := hR2.cells11
    have fz : ∀ i, w2.frozen? ⟨w.heap.size + 1, i, none⟩ = false := fun i => hR2.free i
    obtain ⟨p0, p1, p2, p3, p4, p5, p6, p7, p8, p9, p10⟩ := hr11
    have Hf := hide (And.intro hR2 (And.intro hbw2 hel))
    clear hS0 hS hownK hown2 hgK hatK hkW hownE hbW hbW1 hbW2 hb2 hlrow hlrv hrv hel hR2 hbw2 hltK hkm hlm H0
    go_wp2
    exact el_ret rfl _ Hf.out.1 Hf.out.2.1 Hf.out.2.2 rfl
  have e1 : (kind == 1) = false := by simpa using k1
  by_cases k2 : kind = 2
  · subst k2
    have he : (REl.elem ⟨2, s, keys, l, v, n⟩).toREl = ⟨2, ⟨#[]⟩, [], [], v.tree.toRV, 0⟩ := by simp [REl.elem, E.toREl]
    rw [he]
    generalize v.tree.toRV = rr at *
    clear he
    go_enter Tryz.func57, Tryz.ntmps57
    go_wp2_with fail
    refine (HV.out _ H0.out.1).mono ?_
    rintro e w2 ⟨vs, rfl, hvs, hb2⟩
    obtain ⟨m0, m1, m2, m3, mA, mn, mc, nA, nn, nc, rfl⟩ := hvs.form
    have hs0 := H0.out.1.size
    have hl0 := H0.out.2.2.lt
    have hvs := hvs.mono (G := fun b => w.heap.size + 2 ≤ b ∧ b < w2.heap.size) fun b hb => hb.elim (fun h => h.elim) fun h => ⟨by have := h.1; omega, h.2⟩
    have hel := ElemAt.mk (F := fun b => w.heap.size + 2 ≤ b ∧ b < w2.heap.size) (w := w2) (kind := 2) (n := 0) (s := ⟨#[]⟩) ⟨by decide, by decide⟩ (by decide) (noRows_at _ _) hvs i0
    have hR2 := H0.out.2.2.below hb2 H0.out.2.2.lt
    have hbw2 := H0.out.1.trans (hb2.mono H0.out.1.size)
    have fz : ∀ i, w2.frozen? ⟨w.heap.size + 1, i, none⟩ = false := fun i => hR2.free i
    obtain ⟨p0, p1, p2, p3, p4, p5, p6, p7, p8, p9, p10⟩ := hR2.cells11
    have Hf := hide (And.intro hR2 (And.intro hbw2 hel))
    clear hvs hel hR2 hbw2 hb2 H0
    go_wp2
    exact el_ret rfl _ Hf.out.1 Hf.out.2.1 Hf.out.2.2 rfl
  have e2 : (kind == 2) = false := by simpa using k2
  by_cases k3 : kind = 3
  · subst k3
    have he : (REl.elem ⟨3, s, keys, l, v, n⟩).toREl = ⟨3, ⟨#[]⟩, [], [], vNull, n⟩ := by simp [REl.elem, E.toREl]
    rw [he]
    clear he
    go_enter Tryz.func57, Tryz.ntmps57
    go_upto_region 8 with fail
    have hb0 := H0.out.1
    have hR0 := H0.out.2.2
    have hbx := H0.out.2.1
    generalize World.alloc (World.alloc w _) _ = w2 at hb0 hR0 hbx ⊢
    clear H0
    have hel := ElemAt.mk (F := fun b => w.heap.size + 2 ≤ b ∧ b < w2.heap.size) (w := w2) (kind := 3) (n := n) (s := ⟨#[]⟩) ⟨by decide, by decide⟩ (by decide) (noRows_at _ _) (vNull_at _ _) H.out.2.1
    have fz : ∀ i, w2.frozen? ⟨w.heap.size + 1, i, none⟩ = false := fun i => hR0.free i
    obtain ⟨p0, p1, p2, p3, p4, p5, p6, p7, p8, p9, p10⟩ := hR0.cells11
    have q10 := hbx.cell 10
    simp at q10
    have Hf := hide (And.intro hR0 (And.intro hb0 hel))
    clear hel hR0 hb0 hbx
    go_wp2
    exact el_ret rfl _ Hf.out.1 Hf.out.2.1 Hf.out.2.2 rfl
  have e3 : (kind == 3) = false := by simpa using k3
  have he : (REl.elem ⟨kind, s, keys, l, v, n⟩).toREl = ⟨0, s, [], [], vNull, 0⟩ := by simp [REl.elem, E.toREl, k1, k2, k3]
  rw [he]
  clear he k1 k2 k3
  go_enter Tryz.func57, Tryz.ntmps57
  go_upto_region 9 with fail
  have hb0 := H0.out.1
  have hR0 := H0.out.2.2
  have hbx := H0.out.2.1
  generalize World.alloc (World.alloc w _) _ = w2 at hb0 hR0 hbx ⊢
  clear H0
  have hel := ElemAt.mk (F := fun b => w.heap.size + 2 ≤ b ∧ b < w2.heap.size) (w := w2) (kind := 0) (n := 0) (s := s) i0 H.out.1 (noRows_at _ _) (vNull_at _ _) i0
  have fz : ∀ i, w2.frozen? ⟨w.heap.size + 1, i, none⟩ = false := fun i => hR0.free i
  obtain ⟨p0, p1, p2, p3, p4, p5, p6, p7, p8, p9, p10⟩ := hR0.cells11
  have q1 := hbx.cell 1
  simp at q1
  have Hf := hide (And.intro hR0 (And.intro hb0 hel))
  clear hel hR0 hb0 hbx
  go_wp2
  exact el_ret rfl _ Hf.out.1 Hf.out.2.1 Hf.out.2.2 rfl

end Go.Proofs.YtajeghkjppkhcaaGreat
