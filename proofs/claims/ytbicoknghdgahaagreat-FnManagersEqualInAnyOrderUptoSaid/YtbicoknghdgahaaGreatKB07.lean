/- Parts: ElemSpec, SpecO, ElemOrd, Lists5. -/
import Derived.Test.YtbicoknghdgahaaGreatKB06
set_option linter.unusedVariables false
set_option linter.unusedSimpArgs false
namespace Go.Proofs.YtbicoknghdgahaaGreat
open Go.RowKit
attribute [local go_sem] run_store_float

def set11 (w : World) (g : Nat) (c0 c1 c2 c3 c4 c5 c6 c7 c8 c9 c10 : Value) : World := ((((((((((w.setCell ⟨g, 0, none⟩ c0).setCell ⟨g, 1, none⟩ c1).setCell ⟨g, 2, none⟩ c2).setCell ⟨g, 3, none⟩ c3).setCell ⟨g, 4, none⟩ c4).setCell ⟨g, 5, none⟩ c5).setCell ⟨g, 6, none⟩ c6).setCell ⟨g, 7, none⟩ c7).setCell ⟨g, 8, none⟩ c8).setCell ⟨g, 9, none⟩ c9).setCell ⟨g, 10, none⟩ c10
theorem set11_same {w : World} {g : Nat} {t : TypeId} {a0 a1 a2 a3 a4 a5 a6 a7 a8 a9 a10 : Value} (c0 c1 c2 c3 c4 c5 c6 c7 c8 c9 c10 : Value) (h : Bk w g t #[a0, a1, a2, a3, a4, a5, a6, a7, a8, a9, a10]) : Bk (set11 w g c0 c1 c2 c3 c4 c5 c6 c7 c8 c9 c10) g t #[c0, c1, c2, c3, c4, c5, c6, c7, c8, c9, c10] := by
 have := ((((((((((h.set_ 0 c0).set_ 1 c1).set_ 2 c2).set_ 3 c3).set_ 4 c4).set_ 5 c5).set_ 6 c6).set_ 7 c7).set_ 8 c8).set_ 9 c9).set_ 10 c10
 simpa [set11] using this
theorem set11_heap (w : World) (g : Nat) (c0 c1 c2 c3 c4 c5 c6 c7 c8 c9 c10 : Value) (x : Nat) (h : x ≠ g) : (set11 w g c0 c1 c2 c3 c4 c5 c6 c7 c8 c9 c10).heap[x]? = w.heap[x]? := by
 unfold set11
 rw [Below.heap_setCell _ _ _ _ h, Below.heap_setCell _ _ _ _ h, Below.heap_setCell _ _ _ _ h, Below.heap_setCell _ _ _ _ h, Below.heap_setCell _ _ _ _ h, Below.heap_setCell _ _ _ _ h, Below.heap_setCell _ _ _ _ h, Below.heap_setCell _ _ _ _ h, Below.heap_setCell _ _ _ _ h, Below.heap_setCell _ _ _ _ h, Below.heap_setCell _ _ _ _ h]
theorem set11_size (w : World) (g : Nat) (c0 c1 c2 c3 c4 c5 c6 c7 c8 c9 c10 : Value) : (set11 w g c0 c1 c2 c3 c4 c5 c6 c7 c8 c9 c10).heap.size = w.heap.size := by simp [set11]
theorem set11_below {a w : World} {B g : Nat} (c0 c1 c2 c3 c4 c5 c6 c7 c8 c9 c10 : Value) (h : Below B a w) (hB : B ≤ g) : Below B a (set11 w g c0 c1 c2 c3 c4 c5 c6 c7 c8 c9 c10) := ((((((((((h.setCell hB c0).setCell hB c1).setCell hB c2).setCell hB c3).setCell hB c4).setCell hB c5).setCell hB c6).setCell hB c7).setCell hB c8).setCell hB c9).setCell hB c10


def GivesEl (r : REl) (w : World) (e : Ending) (w' : World) : Prop := ∃ cs : List Value, e = .returned (.agg cs.toArray) ∧ ElemAt (Fr w.heap.size w') w' r cs ∧ Below w.heap.size w w'

theorem el_ret {fn : Func} {p : Tmp} (hfn : fn.results = #[.cell p 29]) (tmps : Array Value) {w w1 : World} {r : REl} {c0 c1 c2 c3 c4 c5 c6 c7 c8 c9 c10 a0 a1 a2 a3 a4 a5 a6 a7 a8 a9 a10 : Value} (hR : Bk w1 (w.heap.size + 1) 29 #[a0, a1, a2, a3, a4, a5, a6, a7, a8, a9, a10]) (hb : Below w.heap.size w w1)
  (hv : ElemAt (fun b => w.heap.size + 2 ≤ b ∧ b < w1.heap.size) w1 r [c0, c1, c2, c3, c4, c5, c6, c7, c8, c9, c10]) (hp : tmps.getD p undef = .pointer (some ⟨w.heap.size + 1, 0, none⟩)) :
  bodyPost Tryz.prog fn (GivesEl r w) .ret { tmps := tmps, defers := [] } (set11 w1 (w.heap.size + 1) c0 c1 c2 c3 c4 c5 c6 c7 c8 c9 c10) := by
 refine bodyPost_ret (results_cell_row hfn _ _ (w.heap.size + 1) 29 #[c0, c1, c2, c3, c4, c5, c6, c7, c8, c9, c10] (0, 0) _ hp (set11_same _ _ _ _ _ _ _ _ _ _ _ hR) Tryz.underlying29 rfl (by kernel_rfl)) rfl ?_
 exact ⟨_, rfl, (hv.keeps fun b hb => set11_heap _ _ _ _ _ _ _ _ _ _ _ _ _ _ (by have := hb.1; omega)).mono fun b hb => ⟨by have := hb.1; omega, by rw [set11_size]; exact hb.2⟩, set11_below _ _ _ _ _ _ _ _ _ _ _ hb (by omega)⟩

theorem zip_fst {α β : Type} : ∀ (a : List α) (b : List β), (a.zip b).map Prod.fst = a.take (min a.length b.length)
 | [], _ => by simp
 | _ :: _, [] => by simp
 | x :: a, y :: b => by
  rw [List.zip_cons_cons, List.map_cons, zip_fst a b, List.length_cons, List.length_cons, Nat.add_min_add_right, List.take_succ_cons]
theorem zip_snd {α β : Type} : ∀ (a : List α) (b : List β), (a.zip b).map Prod.snd = b.take (min a.length b.length)
 | [], _ => by simp
 | _ :: _, [] => by simp
 | x :: a, y :: b => by
  rw [List.zip_cons_cons, List.map_cons, zip_snd a b, List.length_cons, List.length_cons, Nat.add_min_add_right, List.take_succ_cons]
theorem zip_keys (keys : List ByteArray) (l : List RV) : (keys.zip (l.map RV.tree)).map Prod.fst = keys.take (min keys.length l.length) := by
 rw [zip_fst, List.length_map]
theorem zip_vals (keys : List ByteArray) (l : List RV) : (keys.zip (l.map RV.tree)).map (fun p => p.2.toRV) = (l.take (min keys.length l.length)).map fun r => r.tree.toRV := by
 have : (keys.zip (l.map RV.tree)).map (fun p => p.2.toRV) = ((keys.zip (l.map RV.tree)).map Prod.snd).map T.toRV := by simp
 rw [this, zip_snd, List.length_map, ← List.map_take, List.map_map]
 rfl

theorem vNull_at (F : Nat → Prop) (w : World) : RVAt F w vNull [.int .i64 0, .int .i64 0, .float .f64 0, .string ⟨#[]⟩, .slice none 0 0, .slice none 0 0] := RVAt.flat 0 0 0 ⟨#[]⟩ i0 i0 (by decide) (by decide)
theorem noRows_at (F : Nat → Prop) (w : World) : RVAt F w (.mk 0 0 0 ⟨#[]⟩ [] []) [.int .i64 0, .int .i64 0, .float .f64 0, .string ⟨#[]⟩, .slice none 0 0, .slice none 0 0] := vNull_at F w

set_option maxRecDepth 100000 in
set_option maxHeartbeats 4000000 in
theorem cleanElem_calls (r : REl) (w : World) (cs : List Value) (h : ElemAt (Old w) w r cs) : Calls Tryz.prog 67 #[.agg cs.toArray] w (GivesEl r.elem.toREl w) := by
 cases h with
 | @mk kind n s keys l v KA LA kc lc v0 v1 v2 v3 vA vB vn vc vm vd h1 h2 h3 h4 h5 =>
 have HV := hide fun (W : World) (hb : Below w.heap.size w W) => clean_calls v W _ (h4.at_ hb)
 have H := hide (And.intro h2 (And.intro h5 h3))
 clear h1 h2 h3 h4 h5
 have hb0 := below_two w (.cells #[.int .i64 kind, .string s, .slice KA keys.length kc, .slice LA l.length lc, .int .i64 v0, .int .i64 v1, .float .f64 v2, .string v3, .slice vA vn vc, .slice vB vm vd, .int .i64 n] 29) (.cells #[.int .i64 0, .string ⟨#[]⟩, .slice none 0 0, .slice none 0 0, .int .i64 0, .int .i64 0, .float .f64 0, .string ⟨#[]⟩, .slice none 0 0, .slice none 0 0, .int .i64 0] 29)
 have hbx := (Bk.new w 29 #[.int .i64 kind, .string s, .slice KA keys.length kc, .slice LA l.length lc, .int .i64 v0, .int .i64 v1, .float .f64 v2, .string v3, .slice vA vn vc, .slice vB vm vd, .int .i64 n]).alloc (.cells #[.int .i64 0, .string ⟨#[]⟩, .slice none 0 0, .slice none 0 0, .int .i64 0, .int .i64 0, .float .f64 0, .string ⟨#[]⟩, .slice none 0 0, .slice none 0 0, .int .i64 0] 29)
 have hR := Bk.new (w.alloc (.cells #[.int .i64 kind, .string s, .slice KA keys.length kc, .slice LA l.length lc, .int .i64 v0, .int .i64 v1, .float .f64 v2, .string v3, .slice vA vn vc, .slice vB vm vd, .int .i64 n] 29)) 29 #[.int .i64 0, .string ⟨#[]⟩, .slice none 0 0, .slice none 0 0, .int .i64 0, .int .i64 0, .float .f64 0, .string ⟨#[]⟩, .slice none 0 0, .slice none 0 0, .int .i64 0]
 rw [World.size_alloc] at hR
 have H0 := hide (And.intro hb0 (And.intro hbx hR))
 clear hb0 hbx hR
 by_cases k1 : kind = 1
 ·subst k1
  have he : (REl.elem ⟨1, s, keys, l, v, n⟩).toREl = ⟨1, ⟨#[]⟩, keys.take (min keys.length l.length), (l.take (min keys.length l.length)).map (fun r => r.tree.toRV), vNull, 0⟩ := by
   simp only [REl.elem, if_pos, E.toREl, zip_keys, zip_vals]
  rw [he]
  clear he
  go_enter Tryz.func67, Tryz.ntmps67
  obtain ⟨m, hm, hmm, hm1, hm2⟩ : ∃ m : Nat, (if l.length < keys.length then (l.length : Int) else (keys.length : Int)) = (m : Int) ∧ min keys.length l.length = m ∧ m ≤ keys.length ∧ m ≤ l.length := by
   split
   ·exact ⟨l.length, rfl, by omega, by omega, by omega⟩
   ·exact ⟨keys.length, rfl, by omega, by omega, by omega⟩
  rw [hmm]
  have Hm := hide hm
  clear hm hmm
  obtain ⟨i9, hi9, hz9, hs9, hb9⟩ := info_parts str_info
  have hrows := H.out.2.2
  cases hrows with
  | @mk _ _ _ _ _ _ _ _ _ _ xs g1 g2 g3 g4 g5 g6 g7 g8 g9 g10 g11 hK hL hx =>
  have hkr := hK.take hm1
  have hlr := hL.take hm2
  have hkc : m ≤ kc := by omega
  have hlc : m ≤ lc := by omega
  have hki : (m : Int) ≤ (keys.length : Int) := by omega
  have hli : (m : Int) ≤ (l.length : Int) := by omega
  have hkci : (m : Int) ≤ (kc : Int) := by omega
  have hlci : (m : Int) ≤ (lc : Int) := by omega
  have hn1 : keys.length * 16 ≤ 140737488351232 := g6
  have hn2 : l.length * 88 ≤ 140737488351232 := g7
  have Hpl := hide fun (W : World) (hb : Below w.heap.size w W) => plainList_ok (l.take m) LA lc W (xs.take (m * 6)) (by rw [List.length_take]; unfold R47 at *; omega) (fun r hr => clean_calls r) (by rw [List.length_take, Nat.min_eq_left hm2]; exact (hlr.keeps (Keeps.below hb fun _ h => h)).mono fun _ h => Nat.lt_of_lt_of_le h hb.size) (fun i r hr => (by
    have hi : i < m := by
     have := (List.getElem?_eq_some_iff.1 hr).1
     simp only [List.length_take] at this
     omega
    rw [List.getElem?_take, if_pos hi] at hr
    have hi6 : i * 6 + 6 ≤ m * 6 := by omega
    rw [List.drop_take, List.take_take, Nat.min_eq_left (by omega)]
    exact (hx i r hr).at_ hb))
  have hlen : (l.take m).length = m := by rw [List.length_take]; omega
  rw [hlen] at Hpl
  have Hk := hide (And.intro hkr (And.intro g5 (And.intro hm1 hm2)))
  clear g1 g2 g3 g4 g5 g6 g7 g8 g9 g10 g11 hK hL hx hkr hlr hlen
  go_upto_region 4 with fail
  rw [Hm.out]
  have hb0 := H0.out.1
  have hbx := H0.out.2.1
  have hR := H0.out.2.2
  clear H0
  generalize World.alloc (World.alloc w _) _ = W at hb0 hbx hR ⊢
  have hS0 : Bk W.drew w.heap.size 29 #[.int .i64 1, .string s, .slice KA keys.length kc, .slice LA l.length lc, .int .i64 v0, .int .i64 v1, .float .f64 v2, .string v3, .slice vA vn vc, .slice vB vm vd, .int .i64 n] := hbx
  obtain ⟨S, hS⟩ : ∃ S, (fun W => Bk W w.heap.size 29 #[.int .i64 1, .string s, .slice KA keys.length kc, .slice LA l.length lc, .int .i64 v0, .int .i64 v1, .float .f64 v2, .string v3, .slice vA vn vc, .slice vB vm vd, .int .i64 n]) = S := ⟨_, rfl⟩
  have hS0 : S W.drew := by rw [← hS]; exact hS0
  have H0 := hide (And.intro hb0 (And.intro hbx hR))
  clear hb0 hbx hR
  refine wp_region_head 11 S (by rfl) (by kernel_rfl) ?_
  have hX := hide (show ∀ W : World, S W → Bk W w.heap.size 29 #[.int .i64 1, .string s, .slice KA keys.length kc, .slice LA l.length lc, .int .i64 v0, .int .i64 v1, .float .f64 v2, .string v3, .slice vA vn vc, .slice vB vm vd, .int .i64 n] from fun W hSw => by rw [← hS] at hSw; exact hSw)
  refine HT.take 1 (v := ?_) rfl (by kernel_rfl) (fun _ _ _ h => h) (Or.inl ⟨by rfl, ?_⟩) ‹_› ?_
  rotate_left
  ·intro W hSw; have hSw := hX.out W hSw; obtain ⟨s0, s1, s2, s3, s4, s5, s6, s7, s8, s9, s10⟩ := hSw.cells11; clear hSw; go_simp; with_reducible rfl
  simp only [Act.put, zzA, zzZ, zzS]
  refine HT.take 2 (v := ?_) rfl (by kernel_rfl) (fun _ _ _ h => h) (Or.inl ⟨by rfl, ?_⟩) ‹_› ?_
  rotate_left
  ·intro W hSw; have hSw := hX.out W hSw; obtain ⟨s0, s1, s2, s3, s4, s5, s6, s7, s8, s9, s10⟩ := hSw.cells11; clear hSw; go_simp; with_reducible rfl
  simp only [Act.put, zzA, zzZ, zzS]
  refine HT.take 3 (v := ?_) rfl (by kernel_rfl) (fun _ _ _ h => h) (Or.inl ⟨by rfl, ?_⟩) ‹_› ?_
  rotate_left
  ·intro W hSw; have hSw := hX.out W hSw; obtain ⟨s0, s1, s2, s3, s4, s5, s6, s7, s8, s9, s10⟩ := hSw.cells11; clear hSw; go_simp; with_reducible rfl
  simp only [Act.put, zzA, zzZ, zzS]
  refine HT.take 4 (v := ?_) rfl (by kernel_rfl) (fun _ _ _ h => h) (Or.inl ⟨by rfl, ?_⟩) ‹_› ?_
  rotate_left
  ·intro W hSw; have hSw := hX.out W hSw; obtain ⟨s0, s1, s2, s3, s4, s5, s6, s7, s8, s9, s10⟩ := hSw.cells11; clear hSw; go_simp; with_reducible rfl
  simp only [Act.put, zzA, zzZ, zzS]
  refine HT.take 6 (v := ?_) rfl (by kernel_rfl) (fun _ _ _ h => h) (Or.inl ⟨by rfl, ?_⟩) ‹_› ?_
  rotate_left
  ·intro W hSw; have hSw := hX.out W hSw; obtain ⟨s0, s1, s2, s3, s4, s5, s6, s7, s8, s9, s10⟩ := hSw.cells11; clear hSw; go_simp; with_reducible rfl
  simp only [Act.put, zzA, zzZ, zzS]
  refine HT.take 7 (v := ?_) rfl (by kernel_rfl) (fun _ _ _ h => h) (Or.inl ⟨by rfl, ?_⟩) ‹_› ?_
  rotate_left
  ·intro W hSw; have hSw := hX.out W hSw; obtain ⟨s0, s1, s2, s3, s4, s5, s6, s7, s8, s9, s10⟩ := hSw.cells11; clear hSw; go_simp; with_reducible rfl
  simp only [Act.put, zzA, zzZ, zzS]
  refine HT.take 8 (v := ?_) rfl (by kernel_rfl) (fun _ _ _ h => h) (Or.inl ⟨by rfl, ?_⟩) ‹_› ?_
  rotate_left
  ·intro W hSw; have hSw := hX.out W hSw; obtain ⟨s0, s1, s2, s3, s4, s5, s6, s7, s8, s9, s10⟩ := hSw.cells11; clear hSw; go_simp; with_reducible rfl
  simp only [Act.put, zzA, zzZ, zzS]
  refine HT.take 9 (v := ?_) rfl (by kernel_rfl) (fun _ _ _ h => h) (Or.inl ⟨by rfl, ?_⟩) ‹_› ?_
  rotate_left
  ·intro W hSw; have hSw := hX.out W hSw; obtain ⟨s0, s1, s2, s3, s4, s5, s6, s7, s8, s9, s10⟩ := hSw.cells11; clear hSw; go_simp; with_reducible rfl
  simp only [Act.put, zzA, zzZ, zzS]
  clear hX
  refine HT.one 0 rfl (by kernel_rfl) (by rfl) (fun K hK => ?_)
  go_simp
  have hbW : Below W.heap.size W (W.drew.alloc (.cells #[] 9)) := (below_drew (Below.refl _ _)).alloc (Nat.le_refl _) _
  have hownE := World.ownsRow_lit (base := W.heap.size) (e := 9) (size := 1) W.drew #[] 0 (Nat.le_refl _) (by simp [maxLen]) (by simp)
  have hlW : w.heap.size + 2 ≤ W.heap.size := H0.out.2.2.lt
  refine hK.out _ _ (by rw [← hS]; exact H0.out.2.1.below hbW (by omega)) ?_
  clear hK
  refine HT.one 5 rfl (by kernel_rfl) (by rfl) (fun K hK => ?_)
  have hkW : Row (Old w) (W.drew.alloc (.cells #[] 9)) 1 KA m ((keys.take m).map Value.string) := by
   have := Hk.out.1
   rw [Nat.mul_one, ← List.map_take] at this
   exact this.keeps (Keeps.below (H0.out.1.trans (hbW.mono H0.out.1.size)) fun _ h => h)
  refine wp_append_row _ (.tmp 15) (.tmp 19) 24 rfl W.heap.size 9 i9 _ 1 16 Tryz.underlying24 hi9 hz9 hs9 hb9 rfl (by omega) _ 0 [] rfl hownE (Old w) KA m kc ((keys.take m).map Value.string) rfl hkW (fun u hu => by obtain ⟨k, _, rfl⟩ := List.mem_map.1 hu; rfl) (by omega) (by omega) (by simp [World.drew]) ?_
  intro vk w1 hownK hgK hatK
  rw [Nat.zero_add, List.nil_append] at hownK
  have hbW1 : Below W.heap.size W w1 := hbW.grown hgK hbW.size (fun g e => (hownE.lt g e).1)
  go_simp
  refine hK.out _ _ (by rw [← hS]; exact H0.out.2.1.below hbW1 (by omega)) ?_
  clear hK
  refine HT.one 10 rfl (by kernel_rfl) (by rfl) (fun K hK => ?_)
  go_simp
  refine (Hpl.out w1 (H0.out.1.trans (hbW1.mono H0.out.1.size))).mono ?_
  rintro e w2 ⟨LA', lc', ys, rfl, hl1, hl2, hlrow, hlrv, hb2⟩
  have hbW2 := hbW1.trans (hb2.mono hbW1.size)
  go_simp
  refine hK.out _ _ (by rw [← hS]; exact H0.out.2.1.below hbW2 (by omega)) ?_
  clear hK
  refine HT.done (by kernel_rfl) ?_
  simp only [List.drop_succ_cons, List.drop_zero]
  have hkm : (keys.take m).length = m := by rw [List.length_take]; exact Nat.min_eq_left Hk.out.2.2.1
  have hlm : ((l.take m).map fun r => r.tree.toRV).length = m := by rw [List.length_map, List.length_take]; exact Nat.min_eq_left Hk.out.2.2.2
  have hs12 := hb2.size
  have hs1 := hbW1.size
  have hown2 := ownsRow_below hownK hb2 (Nat.le_refl _)
  have hltK := hownK.lt
  obtain ⟨A, c, rfl, hc1, hc2⟩ := own_form hownK
  have hrv : RVAt (fun b => w.heap.size + 2 ≤ b ∧ b < w2.heap.size) w2 (.mk 0 0 0 ⟨#[]⟩ (keys.take m) ((l.take m).map fun r => r.tree.toRV)) [.int .i64 0, .int .i64 0, .float .f64 0, .string ⟨#[]⟩, .slice A (keys.take m).length c, .slice LA' ((l.take m).map fun r => r.tree.toRV).length lc'] :=
   RVAt.mk i0 i0 (by decide) (by decide) (fun k hk => Hk.out.2.1 k (List.mem_of_mem_take hk)) (by rw [hkm]; unfold R47; omega) (by rw [hlm]; unfold R47; omega) (by rw [hkm]; exact hc1) hc2 hl1 hl2
    (by rw [hkm]; exact Row.of_own hown2 fun g hg => ⟨by have := (hltK g hg).1; omega, by have := (hltK g hg).2; omega⟩) (hlrow.mono fun b hb => ⟨by have := hb.1; omega, hb.2⟩) (hlrv.mono fun b hb => ⟨by have := hb.1; omega, hb.2⟩).2
  have hel := ElemAt.mk (F := fun b => w.heap.size + 2 ≤ b ∧ b < w2.heap.size) (w := w2) (kind := 1) (n := 0) (s := ⟨#[]⟩) i1 (by decide) hrv (vNull_at _ _) i0
  rw [hkm, hlm] at hel
  have hR2 := H0.out.2.2.below hbW2 H0.out.2.2.lt
  have hbw2 := H0.out.1.trans (hbW2.mono H0.out.1.size)
  have hr11 := hR2.cells11
  have fz : ∀ i, w2.frozen? ⟨w.heap.size + 1, i, none⟩ = false := fun i => hR2.free i
  obtain ⟨p0, p1, p2, p3, p4, p5, p6, p7, p8, p9, p10⟩ := hr11
  have Hf := hide (And.intro hR2 (And.intro hbw2 hel))
  clear hS0 hS hownK hown2 hgK hatK hkW hownE hbW hbW1 hbW2 hb2 hlrow hlrv hrv hel hR2 hbw2 hltK hkm hlm H0
  go_wp2
  exact el_ret rfl _ Hf.out.1 Hf.out.2.1 Hf.out.2.2 rfl
 have e1 : (kind == 1) = false := by simpa using k1
 by_cases k2 : kind = 2
 ·subst k2
  have he : (REl.elem ⟨2, s, keys, l, v, n⟩).toREl = ⟨2, ⟨#[]⟩, [], [], v.tree.toRV, 0⟩ := by simp [REl.elem, E.toREl]
  rw [he]
  generalize v.tree.toRV = rr at *
  clear he
  go_enter Tryz.func67, Tryz.ntmps67
  go_wp2_with fail
  refine (HV.out _ H0.out.1).mono ?_
  rintro e w2 ⟨vs, rfl, hvs, hb2⟩
  obtain ⟨m0, m1, m2, m3, mA, mn, mc, nA, nn, nc, rfl⟩ := hvs.form
  have hs0 := H0.out.1.size
  have hl0 := H0.out.2.2.lt
  have hvs := hvs.mono (G := fun b => w.heap.size + 2 ≤ b ∧ b < w2.heap.size) fun b hb => hb.elim (fun h => h.elim) fun h => ⟨by have := h.1; omega, h.2⟩
  have hel := ElemAt.mk (F := fun b => w.heap.size + 2 ≤ b ∧ b < w2.heap.size) (w := w2) (kind := 2) (n := 0) (s := ⟨#[]⟩) ⟨by decide, by decide⟩ (by decide) (noRows_at _ _) hvs i0
  have hR2 := H0.out.2.2.below hb2 H0.out.2.2.lt
  have hbw2 := H0.out.1.trans (hb2.mono H0.out.1.size)
  have fz : ∀ i, w2.frozen? ⟨w.heap.size + 1, i, none⟩ = false := fun i => hR2.free i
  obtain ⟨p0, p1, p2, p3, p4, p5, p6, p7, p8, p9, p10⟩ := hR2.cells11
  have Hf := hide (And.intro hR2 (And.intro hbw2 hel))
  clear hvs hel hR2 hbw2 hb2 H0
  go_wp2
  exact el_ret rfl _ Hf.out.1 Hf.out.2.1 Hf.out.2.2 rfl
 have e2 : (kind == 2) = false := by simpa using k2
 by_cases k3 : kind = 3
 ·subst k3
  have he : (REl.elem ⟨3, s, keys, l, v, n⟩).toREl = ⟨3, ⟨#[]⟩, [], [], vNull, n⟩ := by simp [REl.elem, E.toREl]
  rw [he]
  clear he
  go_enter Tryz.func67, Tryz.ntmps67
  go_upto_region 8 with fail
  have hb0 := H0.out.1
  have hR0 := H0.out.2.2
  have hbx := H0.out.2.1
  generalize World.alloc (World.alloc w _) _ = w2 at hb0 hR0 hbx ⊢
  clear H0
  have hel := ElemAt.mk (F := fun b => w.heap.size + 2 ≤ b ∧ b < w2.heap.size) (w := w2) (kind := 3) (n := n) (s := ⟨#[]⟩) ⟨by decide, by decide⟩ (by decide) (noRows_at _ _) (vNull_at _ _) H.out.2.1
  have fz : ∀ i, w2.frozen? ⟨w.heap.size + 1, i, none⟩ = false := fun i => hR0.free i
  obtain ⟨p0, p1, p2, p3, p4, p5, p6, p7, p8, p9, p10⟩ := hR0.cells11
  have q10 := hbx.cell 10
  simp at q10
  have Hf := hide (And.intro hR0 (And.intro hb0 hel))
  clear hel hR0 hb0 hbx
  go_wp2
  exact el_ret rfl _ Hf.out.1 Hf.out.2.1 Hf.out.2.2 rfl
 have e3 : (kind == 3) = false := by simpa using k3
 have he : (REl.elem ⟨kind, s, keys, l, v, n⟩).toREl = ⟨0, s, [], [], vNull, 0⟩ := by simp [REl.elem, E.toREl, k1, k2, k3]
 rw [he]
 clear he k1 k2 k3
 go_enter Tryz.func67, Tryz.ntmps67
 go_upto_region 9 with fail
 have hb0 := H0.out.1
 have hR0 := H0.out.2.2
 have hbx := H0.out.2.1
 generalize World.alloc (World.alloc w _) _ = w2 at hb0 hR0 hbx ⊢
 clear H0
 have hel := ElemAt.mk (F := fun b => w.heap.size + 2 ≤ b ∧ b < w2.heap.size) (w := w2) (kind := 0) (n := 0) (s := s) i0 H.out.1 (noRows_at _ _) (vNull_at _ _) i0
 have fz : ∀ i, w2.frozen? ⟨w.heap.size + 1, i, none⟩ = false := fun i => hR0.free i
 obtain ⟨p0, p1, p2, p3, p4, p5, p6, p7, p8, p9, p10⟩ := hR0.cells11
 have q1 := hbx.cell 1
 simp at q1
 have Hf := hide (And.intro hR0 (And.intro hb0 hel))
 clear hel hR0 hb0 hbx
 go_wp2
 exact el_ret rfl _ Hf.out.1 Hf.out.2.1 Hf.out.2.2 rfl

end Go.Proofs.YtbicoknghdgahaaGreat

namespace Go.Proofs.YtbicoknghdgahaaGreat
open Go.RowKit
attribute [local go_sem] run_store_float

theorem specInts_calls (a b : Int) (w : World) : Calls Tryz.prog 176 #[.int .i64 a, .int .i64 b] w fun e w' => e = .returned (.int .i64 (cmpI a b)) ∧ w = w' := by
 by_cases h1 : a < b
 ·have e : cmpI a b = -1 := by unfold cmpI; rw [if_pos h1]
  rw [e]
  go_enter Tryz.func176, Tryz.ntmps176
  go_wp2
  go_ret
  exact ⟨rfl, rfl⟩
 ·by_cases h2 : b < a
  ·have e : cmpI a b = 1 := by unfold cmpI; rw [if_neg h1, if_pos h2]
   rw [e]
   go_enter Tryz.func176, Tryz.ntmps176
   go_wp2
   go_ret
   exact ⟨rfl, rfl⟩
  ·have e : cmpI a b = 0 := by unfold cmpI; rw [if_neg h1, if_neg h2]
   rw [e]
   go_enter Tryz.func176, Tryz.ntmps176
   go_wp2
   go_ret
   exact ⟨rfl, rfl⟩
theorem specInts_same (a b : Int) (w : World) : Calls Tryz.prog 176 #[.int .i64 a, .int .i64 b] w fun e w' => e = .returned (.int .i64 (cmpI a b)) ∧ w' = w := (specInts_calls a b w).mono fun _ _ h => ⟨h.1, h.2.symm⟩
theorem cmpB_drop {a b : List UInt8} {k : Nat} (h1 : k < a.length) (h2 : k < b.length) : Lib.compareBytes (a.drop k) (b.drop k) = if a[k] = b[k] then Lib.compareBytes (a.drop (k + 1)) (b.drop (k + 1)) else cmpI (a[k].toNat : Int) (b[k].toNat : Int) := by
 rw [List.drop_eq_getElem_cons h1, List.drop_eq_getElem_cons h2, Lib.compareBytes]
 generalize a[k] = x
 generalize b[k] = y
 unfold cmpI
 by_cases e : x = y
 ·subst e
  rw [if_neg (by simp), if_neg (by simp), if_pos rfl]
 ·rw [if_neg e]
  have e1 : x < y ↔ (x.toNat : Int) < (y.toNat : Int) := by rw [UInt8.lt_iff_toNat_lt]; omega
  have e2 : y < x ↔ (y.toNat : Int) < (x.toNat : Int) := by rw [UInt8.lt_iff_toNat_lt]; omega
  simp only [e1, e2]
  have hne : x.toNat ≠ y.toNat := fun h => e (UInt8.toNat_inj.1 h)
  by_cases h : (x.toNat : Int) < (y.toNat : Int)
  ·rw [if_pos h, if_pos h]
  ·rw [if_neg h, if_neg h, if_pos (by omega), if_pos (by omega)]
theorem cmpB_end {a b : List UInt8} {k : Nat} (hk1 : k ≤ a.length) (hk2 : k ≤ b.length) (h : a.length ≤ k ∨ b.length ≤ k) : Lib.compareBytes (a.drop k) (b.drop k) = cmpI (a.length : Int) (b.length : Int) := by
 by_cases h1 : k < a.length
 ·rw [List.drop_eq_getElem_cons h1, List.drop_of_length_le (show b.length ≤ k by omega), Lib.compareBytes]
  unfold cmpI
  rw [if_neg (by omega), if_pos (by omega)]
 ·rw [List.drop_of_length_le (show a.length ≤ k by omega)]
  by_cases h2 : k < b.length
  ·rw [List.drop_eq_getElem_cons h2, Lib.compareBytes]
   unfold cmpI
   rw [if_pos (by omega)]
  ·rw [List.drop_of_length_le (show b.length ≤ k by omega), Lib.compareBytes]
   unfold cmpI
   rw [if_neg (by omega), if_neg (by omega)]

def StrInv (a b : ByteArray) (c : Int) (w : World) (s : Value) (wr : World) : Prop := ∃ k : Nat, s = .int .i64 (k : Int) ∧ k ≤ a.size ∧ k ≤ b.size ∧ Lib.compareBytes (a.data.toList.drop k) (b.data.toList.drop k) = c ∧ Below w.heap.size w wr
set_option maxRecDepth 100000 in
theorem specStrings_calls (a b : ByteArray) (ha : a.size ≤ R47) (hb : b.size ≤ R47) (w : World) : Calls Tryz.prog 120 #[.string a, .string b] w fun e w' => e = .returned (.int .i64 (cmpS a b)) ∧ Below w.heap.size w w' := by
 unfold R47 at ha hb
 obtain ⟨c, hcv⟩ : ∃ c, cmpS a b = c := ⟨_, rfl⟩
 rw [hcv]
 unfold cmpS at hcv
 have Hc := hide hcv
 clear hcv
 go_enter Tryz.func120, Tryz.ntmps120
 go_wp2
 go_loopw [5] (fun s wr => StrInv a b c w s wr) (fun s _ => a.size - (intOf s).toNat)
 case atStart => exact ⟨0, rfl, Nat.zero_le _, Nat.zero_le _, by simpa using Hc.out, Below.refl _ _⟩
 case round =>
  obtain ⟨k, rfl, hk1, hk2, hcmp, hb'⟩ := hrel
  have Hcmp := hide hcmp
  have Hb := hide hb'
  clear hcmp hb'
  by_cases h1 : k < a.size
  ·by_cases h2 : k < b.size
   ·have i1 : (k : Int) < (a.size : Int) := by omega
    have i2 : (k : Int) < (b.size : Int) := by omega
    have i0 : (0 : Int) ≤ (k : Int) := by omega
    have hcs := cmpB_drop (a := a.data.toList) (b := b.data.toList) (k := k) (by simpa using h1) (by simpa using h2)
    have ea : a.data.toList[k]'(by simpa using h1) = a[k] := by simp [ByteArray.getElem_eq_getElem_data]
    have eb : b.data.toList[k]'(by simpa using h2) = b[k] := by simp [ByteArray.getElem_eq_getElem_data]
    rw [ea, eb] at hcs
    have Hcs := hide hcs
    clear hcs ea eb
    by_cases hxy : a[k] = b[k]
    ·have hne : ((a[k].toNat : Int) != (b[k].toNat : Int)) = false := by rw [hxy]; simp
     go_wp2_with fail
     go_quiet (fail)
     go_wp2_with fail
     have hcv := Hcs.out
     rw [if_pos hxy] at hcv
     exact ⟨⟨k + 1, by go_num, h1, h2, hcv.symm.trans Hcmp.out, below_drewN Hb.out _⟩, by simp [intOf]; omega⟩
    ·have hne : ((a[k].toNat : Int) != (b[k].toNat : Int)) = true := by
      rw [bne_iff_ne]
      intro h
      exact hxy (UInt8.toNat_inj.1 (by omega))
     go_wp2_with fail
     go_quiet (fail)
     go_wp2_with fail
     have hx8 : a[k].toNat < 256 := UInt8.toNat_lt _
     have hy8 : b[k].toNat < 256 := UInt8.toNat_lt _
     have hw1 : IntKind.i64.wrap (a[k].toNat : Int) = (a[k].toNat : Int) := IntWalk.i64_in _ (by omega)
     have hw2 : IntKind.i64.wrap (b[k].toNat : Int) = (b[k].toNat : Int) := IntWalk.i64_in _ (by omega)
     have hbw := below_drewN Hb.out
     generalize hW2 : wr.drewN _ = W2
     have hb2 : Below w.heap.size w W2 := by rw [← hW2]; exact hbw _
     clear hW2 hbw
     go_quiet ((go_at_call 176; exact Calls.quiet_of_same (specInts_same _ _ _)))
     go_wp2
     go_ret
     have hcv := Hcs.out
     rw [if_neg hxy, Hcmp.out] at hcv
     subst hcv
     exact ⟨rfl, below_drewN hb2 _⟩
   ·go_wp2_with fail
    refine (specInts_calls _ _ _).mono ?_
    rintro e w' ⟨rfl, rfl⟩
    go_wp2
    go_ret
    have hcv := Hcmp.out
    rw [cmpB_end (by simpa using hk1) (by simpa using hk2) (.inr (by simp; omega)), show a.data.toList.length = a.size by simp, show b.data.toList.length = b.size by simp] at hcv
    subst hcv
    exact ⟨rfl, Hb.out⟩
  ·go_wp2_with fail
   refine (specInts_calls _ _ _).mono ?_
   rintro e w' ⟨rfl, rfl⟩
   go_wp2
   go_ret
   have hcv := Hcmp.out
   rw [cmpB_end (by simpa using hk1) (by simpa using hk2) (.inl (by simp; omega)), show a.data.toList.length = a.size by simp, show b.data.toList.length = b.size by simp] at hcv
   subst hcv
   exact ⟨rfl, Hb.out⟩

end Go.Proofs.YtbicoknghdgahaaGreat

namespace Go.Proofs.YtbicoknghdgahaaGreat
open Go.RowKit
attribute [local go_sem] run_store_float

theorem sortK_snoc {l : List ByteArray} {i : Nat} (hs : SortK (l.take i)) (h1 : 1 ≤ i) (h2 : i < l.length) (hlt : klt l[i - 1] l[i] = true) : SortK (l.take (i + 1)) := by
 rw [List.take_succ_eq_append_getElem h2]
 refine List.pairwise_append.2 ⟨hs, List.pairwise_singleton _ _, fun a ha b hb => ?_⟩
 rw [List.mem_singleton.1 hb]
 obtain ⟨j, hj, e⟩ := List.getElem_of_mem ha
 rw [List.length_take] at hj
 rw [List.getElem_take] at e
 rcases Nat.lt_or_ge j (i - 1) with h | h
 ·have h3 := List.pairwise_iff_getElem.1 hs j (i - 1) (by rw [List.length_take]; omega) (by rw [List.length_take]; omega) h
  rw [List.getElem_take, List.getElem_take] at h3
  rw [← e]
  exact klt_trans h3 hlt
 ·have : j = i - 1 := by omega
  subst this
  rw [← e]
  exact hlt

def KSI2 (w W2 : World) (keys : List ByteArray) (s : Value) (W : World) : Prop := ∃ i : Nat, s = .int .i64 (i : Int) ∧ 1 ≤ i ∧ (i ≤ keys.length ∨ i = 1) ∧ SortK (keys.take i) ∧ Below W2.heap.size W2 W

def KSS (g b o i j : Nat) (kv x y : Value) (W : World) : Prop := W.cell? ⟨g, 2, none⟩ = some kv ∧ W.cell? ⟨b, o + i, none⟩ = some x ∧ W.cell? ⟨b, o + j, none⟩ = some y

theorem ElemAt.rows {F : Nat → Prop} {w : World} {r : REl} {a b c d e f g h i : Value} {KA LA : Option Addr} {kn kc ln lc : Nat} (hr : ElemAt F w r [a, b, .slice KA kn kc, .slice LA ln lc, c, d, e, f, g, h, i]) :
  kn = r.keys.length ∧ ln = r.l.length ∧ r.keys.length * 16 ≤ R47 ∧ (∀ k ∈ r.keys, k.size ≤ R47) ∧ Row F w 1 KA r.keys.length (r.keys.map Value.string) := by
 cases hr with
 | mk h1 h2 h3 h4 h5 =>
  cases h3 with
  | mk g1 g2 g3 g4 g5 g6 g7 g8 g9 g10 g11 hK hL hx => exact ⟨rfl, rfl, g6, g5, hK⟩

set_option maxRecDepth 100000 in
set_option maxHeartbeats 4000000 in
theorem keySorted_calls (r : REl) (w : World) (cs : List Value) (h : ElemAt (Old w) w r cs) : Calls Tryz.prog 70 #[.agg cs.toArray] w (OrdPost (SortK r.elem.toREl.keys) w) := by
 have H := hide fun (W : World) (hb : Below w.heap.size w W) => cleanElem_calls r W _ (h.at_ hb)
 generalize r.elem.toREl = r' at *
 obtain ⟨a0, a1, a2, a3, a4, a5, a6, a7, a8, a9, aa, ab, ac, ad, ae, af, ag, ah, ai, rfl⟩ := h.form
 clear h
 go_enter Tryz.func70, Tryz.ntmps70
 go_wp2_with fail
 have hb0 : Below w.heap.size w (w.alloc (.cells #[.int .i64 a0, .string a1, .slice a2 a3 a4, .slice a5 a6 a7, .int .i64 a8, .int .i64 a9, .float .f64 aa, .string ab, .slice ac ad ae, .slice af ag ah, .int .i64 ai] 29)) := (Below.refl _ _).alloc (Nat.le_refl _) _
 have hB0 := Bk.new w 29 #[.int .i64 a0, .string a1, .slice a2 a3 a4, .slice a5 a6 a7, .int .i64 a8, .int .i64 a9, .float .f64 aa, .string ab, .slice ac ad ae, .slice af ag ah, .int .i64 ai]
 generalize World.alloc _ _ = W at hb0 hB0 ⊢
 refine (H.out _ hb0).mono ?_
 rintro e w1 ⟨es, rfl, hes, hb1⟩
 obtain ⟨e0, e1, e2, e3, e4, e5, e6, e7, e8, e9, ea, eb, ec, ed, ee, ef, eg, eh, ei, rfl⟩ := hes.form
 have hB1 := hB0.below hb1 hB0.lt
 have hbw := hb0.trans (hb1.mono hb0.size)
 have hgl := hB0.lt
 have hes := hes.mono (G := fun b => w.heap.size + 1 ≤ b ∧ b < w1.heap.size) fun b hb => ⟨by have := hb.1; omega, hb.2⟩
 obtain ⟨rfl, rfl, h16, hks, hrow⟩ := hes.rows
 have hn : r'.keys.length ≤ 8796093022208 := by unfold R47 at h16; omega
 have fz : ∀ i, w1.frozen? ⟨w.heap.size, i, none⟩ = false := fun i => hB1.free i
 obtain ⟨p0, p1, p2, p3, p4, p5, p6, p7, p8, p9, p10⟩ := hB1.cells11
 have hset := set11_same (h := hB1) (c0 := .int .i64 e0) (c1 := .string e1) (c2 := .slice e2 r'.keys.length e4) (c3 := .slice e5 r'.l.length e7) (c4 := .int .i64 e8) (c5 := .int .i64 e9) (c6 := .float .f64 ea) (c7 := .string eb) (c8 := .slice ec ed ee) (c9 := .slice ef eg eh) (c10 := .int .i64 ei)
 have hsb := set11_below (.int .i64 e0) (.string e1) (.slice e2 r'.keys.length e4) (.slice e5 r'.l.length e7) (.int .i64 e8) (.int .i64 e9) (.float .f64 ea) (.string eb) (.slice ec ed ee) (.slice ef eg eh) (.int .i64 ei) hbw (Nat.le_refl w.heap.size)
 have hsh := fun b (hb : b ≠ w.heap.size) => set11_heap w1 w.heap.size (.int .i64 e0) (.string e1) (.slice e2 r'.keys.length e4) (.slice e5 r'.l.length e7) (.int .i64 e8) (.int .i64 e9) (.float .f64 ea) (.string eb) (.slice ec ed ee) (.slice ef eg eh) (.int .i64 ei) b hb
 have hsz := set11_size w1 w.heap.size (.int .i64 e0) (.string e1) (.slice e2 r'.keys.length e4) (.slice e5 r'.l.length e7) (.int .i64 e8) (.int .i64 e9) (.float .f64 ea) (.string eb) (.slice ec ed ee) (.slice ef eg eh) (.int .i64 ei)
 have hrow := (hrow.keeps (w' := set11 w1 w.heap.size (.int .i64 e0) (.string e1) (.slice e2 r'.keys.length e4) (.slice e5 r'.l.length e7) (.int .i64 e8) (.int .i64 e9) (.float .f64 ea) (.string eb) (.slice ec ed ee) (.slice ef eg eh) (.int .i64 ei)) fun b hb => hsh b (by have := hb.1; omega)).mono (G := fun b => w.heap.size + 1 ≤ b ∧ b < (set11 w1 w.heap.size (.int .i64 e0) (.string e1) (.slice e2 r'.keys.length e4) (.slice e5 r'.l.length e7) (.int .i64 e8) (.int .i64 e9) (.float .f64 ea) (.string eb) (.slice ec ed ee) (.slice ef eg eh) (.int .i64 ei)).heap.size) fun b hb => ⟨hb.1, by rw [hsz]; exact hb.2⟩
 unfold set11 at hset hsb hrow
 have Hx := hide (And.intro hset (And.intro hsb (And.intro hrow hks)))
 clear hes hB0 hB1 hb0 hbw hset hsb hsh hsz hrow hks hb1
 go_upto_region 2 with fail
 have hx := Hx.out
 clear Hx fz p0 p1 p2 p3 p4 p5 p6 p7 p8 p9 p10
 generalize World.setCell _ _ _ = W2 at hx ⊢
 obtain ⟨hset, hsb, hrow, hks⟩ := hx
 generalize r'.keys = keys at *
 generalize r'.l.length = ln at *
 have HR := hide hrow
 have HK := hide hks
 have H0 := hide (And.intro hset hsb)
 clear hset hsb hrow hks
 go_wp2_with fail
 go_loopw [3] (fun s W => KSI2 w W2 keys s W) (fun s _ => keys.length + 1 - (intOf s).toNat)
 case atStart => exact ⟨1, rfl, Nat.le_refl _, .inr rfl, by cases keys with | nil => exact List.Pairwise.nil | cons a l => exact List.pairwise_singleton _ _, Below.refl _ _⟩
 case round =>
  obtain ⟨i, rfl, hi1, hi2, hs, hb⟩ := hrel
  have hB := H0.out.1.below hb H0.out.1.lt
  have q2 := hB.cell 2
  simp at q2
  have hgl2 := H0.out.1.lt
  have hbs := hb.size
  by_cases hlt : i < keys.length
  ·have hsn := sortK_snoc hs hi1 hlt
   obtain ⟨b, o, rfl, hF, hc0⟩ := row1_at (u := .string keys[i]) HR.out hlt (by simp [hlt])
   obtain ⟨b', o', e', hF', hc1⟩ := row1_at (k := i - 1) (u := .string keys[i - 1]) HR.out (by omega) (by simp)
   cases e'
   have hk0 := HK.out _ (List.getElem_mem hlt)
   have hk1 := HK.out keys[i - 1] (List.getElem_mem _)
   generalize keys[i] = kb at *
   generalize keys[i - 1] = ka at *
   rw [← (bcell hb).1 _ _ hF.2] at hc0 hc1
   obtain ⟨x, hx⟩ : ∃ x, cmpS ka kb = x := ⟨_, rfl⟩
   have hcall := fun W => specStrings_calls ka kb hk1 hk0 W
   rw [hx] at hcall
   have Hcall := hide hcall
   have Hx := hide hx
   have hbl := hF.2
   obtain ⟨j, rfl⟩ : ∃ j, i = j + 1 := ⟨i - 1, by omega⟩
   rw [Nat.add_sub_cancel] at hc1
   have Hsn := hide hsn
   have Hb := hide hb
   have hki0 : (0 : Int) ≤ (j : Int) := Int.natCast_nonneg _
   have hki1 : (j : Int) + 1 < (keys.length : Int) := by omega
   have hki3 : (0 : Int) ≤ (j : Int) + 1 := by omega
   have hki2 : (j : Int) < (keys.length : Int) := by omega
   have e1 : IntKind.i64.wrap ((j : Int) + 1 - 1) = (j : Int) := by rw [IntWalk.i64_in _ (by omega)]; omega
   have e2 : ((j : Int) + 1).toNat = j + 1 := by omega
   have e3 : IntKind.i64.wrap (j : Int) = (j : Int) := IntWalk.i64_in _ (by omega)
   clear hs hsn hx hcall hF hF' hk0 hk1 hb hB hi2
   rw [show ((j + 1 : Nat) : Int) = (j : Int) + 1 from rfl]
   go_wp2_with fail
   have hS0 : KSS w.heap.size b o (j + 1) j (.slice (some ⟨b, o, none⟩) keys.length e4) (.string kb) (.string ka) wr.drew := ⟨q2, hc0, hc1⟩
   obtain ⟨S, hS⟩ : ∃ S, KSS w.heap.size b o (j + 1) j (.slice (some ⟨b, o, none⟩) keys.length e4) (.string kb) (.string ka) = S := ⟨_, rfl⟩
   rw [hS] at hS0
   refine wp_region_head 12 S (by rfl) (by kernel_rfl) ?_
   have hX := hide (show ∀ W : World, S W → W.cell? ⟨w.heap.size, 2, none⟩ = some (.slice (some ⟨b, o, none⟩) keys.length e4) ∧ W.cell? ⟨b, o + (j + 1), none⟩ = some (.string kb) ∧ W.cell? ⟨b, o + j, none⟩ = some (.string ka) from fun W hSw => by rw [← hS] at hSw; exact hSw)
   iterate 11
    refine HT.nx (v := ?_) rfl (by kernel_rfl) (fun _ _ _ h => h) (Or.inl ⟨by rfl, ?_⟩) ‹_› ?_
    rotate_left
    ·intro W hSw; have hSw := hX.out W hSw; go_simp; with_reducible rfl
    simp only [Act.put, zzA, zzZ, zzS]
   clear hX
   refine HT.one 11 rfl (by kernel_rfl) (by rfl) (fun K hK => ?_)
   go_simp
   refine (Hcall.out wr.drew).mono ?_
   rintro e w5 ⟨rfl, hb5⟩
   have hb5' : Below wr.heap.size wr w5 := below_drew' hb5
   have eb := (bcell hb5').1
   go_simp
   refine hK.out _ _ (by rw [← hS]; exact ⟨(eb _ _ (by omega)).trans q2, (eb _ _ (by omega)).trans hc0, (eb _ _ (by omega)).trans hc1⟩) ?_
   clear hK
   refine HT.done (by kernel_rfl) ?_
   simp only [List.drop_succ_cons, List.drop_zero]
   have Hb5 := hide (Hb.out.trans (hb5'.mono Hb.out.size))
   clear hS0 hS hb5 hb5' eb
   by_cases hx0 : 0 ≤ x
   ·have Hfin := hide (H0.out.2.trans (Hb5.out.mono H0.out.2.size))
    go_wp2_with fail
    go_ret
    exact ⟨false, rfl, (fun h => Bool.noConfusion h), Hfin.out⟩
   ·have hkl : klt ka kb = true := cmpS_neg.1 (by rw [Hx.out]; omega)
    have Hkl := hide hkl
    clear hkl
    go_wp2_with fail
    exact ⟨⟨j + 1 + 1, by go_num, by omega, .inl hlt, Hsn.out Hkl.out, Hb5.out⟩, by simp [intOf]; omega⟩
  ·have hall : SortK keys := by
    rcases hi2 with h | h
    ·rw [List.take_of_length_le (by omega)] at hs
     exact hs
    ·subst h
     have hl : keys.length ≤ 1 := by omega
     rw [List.take_of_length_le hl] at hs
     exact hs
   have Hfin := hide (And.intro hall (H0.out.2.trans (hb.mono H0.out.2.size)))
   have hki2 : ¬ (i : Int) < (keys.length : Int) := by omega
   clear hs hb hB hi2 hall
   go_wp2
   go_ret
   exact ⟨true, rfl, fun _ => Hfin.out.1, Hfin.out.2⟩

end Go.Proofs.YtbicoknghdgahaaGreat

namespace Go.Proofs.YtbicoknghdgahaaGreat
open Go.RowKit
attribute [local go_sem] run_store_float

theorem RVAt.listOf {F : Nat → Prop} {w : World} {kd n : Int} {f : Nat} {s : ByteArray} {keys : List ByteArray} {l : List RV} {c0 c1 c2 c3 c4 c5 : Value} (h : RVAt F w (.mk kd n f s keys l) [c0, c1, c2, c3, c4, c5]) :
  RVAt F w (LRV l) [.int .i64 5, .int .i64 0, .float .f64 0, .string ⟨#[]⟩, .slice none 0 0, c5] := by
 cases h with
 | @mk _ _ _ _ _ _ KA LA kc lc xs h1 h2 h3 h4 h5 h6 h7 h8 h9 h10 h11 hK hL hx =>
 exact RVAt.mk (f := 0) (s := ⟨#[]⟩) (keys := []) (KA := none) (kc := 0) ⟨by decide, by decide⟩ ⟨by decide, by decide⟩ (by decide) (by decide) (by simp) (by simp [R47]) h7 (by simp) (by simp) h10 h11 Row.nil_ hL hx
theorem Bx.st6 {W : World} {g p : Nat} {c0 c1 c2 c3 c4 c5 : Value} (h : Bx W g c0 c1 c2 c3 c4 c5) (hne : g ≠ p) (d0 d1 d2 d3 d4 d5 : Value) : Bx (set6 W p d0 d1 d2 d3 d4 d5) g c0 c1 c2 c3 c4 c5 := by
 have e : ∀ i, (Proofs.YtbicoknghdgahaaGreat.set6 W p d0 d1 d2 d3 d4 d5).cell? ⟨g, i, none⟩ = W.cell? ⟨g, i, none⟩ := fun i => by
  unfold World.cell?
  rw [set6_heap _ _ _ _ _ _ _ _ _ (show g ≠ p from hne)]
 exact ⟨(e 0).trans h.k0, (e 1).trans h.k1, (e 2).trans h.k2, (e 3).trans h.k3, (e 4).trans h.k4, (e 5).trans h.k5⟩
theorem W2.st6 {w W : World} {p : Nat} {a0 a1 a2 a3 a4 a5 b0 b1 b2 b3 b4 b5 : Value} (h : W2 w a0 a1 a2 a3 a4 a5 b0 b1 b2 b3 b4 b5 W) (hp : w.heap.size + 2 ≤ p) (d0 d1 d2 d3 d4 d5 : Value) : W2 w a0 a1 a2 a3 a4 a5 b0 b1 b2 b3 b4 b5 (set6 W p d0 d1 d2 d3 d4 d5) :=
 ⟨set6_below _ _ _ _ _ _ h.below (by omega), by rw [set6_size]; exact h.size, h.a.st6 (by omega) _ _ _ _ _ _, h.b.st6 (by omega) _ _ _ _ _ _⟩
end Go.Proofs.YtbicoknghdgahaaGreat
