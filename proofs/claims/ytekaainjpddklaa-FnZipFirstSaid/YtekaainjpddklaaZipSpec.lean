/-
  The reference's Zip of two values: the keys of two maps in order, each with what lies under it in either.
-/
import Derived.Test.YtekaainjpddklaaZipMaps
import Derived.Test.YtekaainjpddklaaField2
import Derived.Test.YtekaainjpddklaaTwo
import Derived.Test.YtekaainjpddklaaFldsP
set_option linter.unusedVariables false
set_option linter.unusedSimpArgs false
namespace Go.Proofs.Ytekaainjpddklaa
open Go.RowKit
attribute [local go_sem] run_store_float

/-! plain -/
/-- the fields of two plain maps, laid one after the other -/
def foldM (m1 m2 : List (ByteArray × RV)) : List (ByteArray × RV) := m2.foldl (fun m p => ins p.1 p.2 m) m1
theorem foldM_sorted {m1 m2 : List (ByteArray × RV)} (h : Sorted m1) : Sorted (foldM m1 m2) := foldl_ins_sorted _ _ h
theorem foldM_keys (m2 : List (ByteArray × RV)) : ∀ m1, Sorted m1 → ∀ k, k ∈ (foldM m1 m2).map Prod.fst ↔ k ∈ m1.map Prod.fst ∨ k ∈ m2.map Prod.fst := by
  induction m2 with
  | nil => intro m1 h k; simp [foldM]
  | cons p r ih =>
    intro m1 h k
    have h1 := ih (ins p.1 p.2 m1) (ins_sorted h) k
    show k ∈ (foldM (ins p.1 p.2 m1) r).map Prod.fst ↔ _
    rw [h1, keys_ins h, List.map_cons, List.mem_cons]
    constructor
    · rintro ((h | h) | h)
      · exact .inr (.inl h)
      · exact .inl h
      · exact .inr (.inr h)
    · rintro (h | h | h)
      · exact .inl (.inr h)
      · exact .inl (.inl h)
      · exact .inr h
theorem foldM_snoc (m1 m2 : List (ByteArray × RV)) (i : Nat) (h : i < m2.length) : foldM m1 (m2.take (i + 1)) = ins m2[i].1 m2[i].2 (foldM m1 (m2.take i)) := by
  unfold foldM
  rw [List.take_succ_eq_append_getElem h, List.foldl_append]
  rfl
theorem foldM_length (m1 m2 : List (ByteArray × RV)) : (foldM m1 m2).length ≤ m1.length + m2.length := foldl_ins_length _ _

/-- a map's fields, as plain structs -/
def mRV (l : List (ByteArray × T)) : List (ByteArray × RV) := l.map fun p => (p.1, p.2.toRV)
theorem mRV_keys (l : List (ByteArray × T)) : (mRV l).map Prod.fst = l.map Prod.fst := by simp [mRV]
theorem mRV_sorted {l : List (ByteArray × T)} (h : Sorted l) : Sorted (mRV l) := by
  unfold mRV Sorted
  rw [List.pairwise_map]
  exact h
theorem mRV_getT (l : List (ByteArray × T)) (k : ByteArray) : getT (mRV l) k = (getT l k).map T.toRV := by
  unfold getT mRV
  rw [List.find?_map]
  cases h : l.find? ((fun p => decide (p.1 = k)) ∘ fun p => (p.1, p.2.toRV))
  · have h2 : l.find? (fun p => decide (p.1 = k)) = none := h
    rw [h2]
    rfl
  · have h2 : l.find? (fun p => decide (p.1 = k)) = some _ := h
    rw [h2]
    rfl
theorem foldM_both {l1 l2 : List (ByteArray × T)} (s1 : Sorted l1) (s2 : Sorted l2) : (foldM (mRV l1) (mRV l2)).map Prod.fst = bothK l1 l2 := by
  refine sortK_ext (sortK_of (foldM_sorted (mRV_sorted s1))) (mergeK_sorted _ _ (sortK_of s1) (sortK_of s2)) fun k => ?_
  rw [foldM_keys _ _ (mRV_sorted s1), mRV_keys, mRV_keys, bothK, mem_mergeK]
theorem plainMap_is (r : RV) : r.fieldsOf.toRV = fieldsRV (mRV r.flds) := by
  rw [RV.fieldsOf_eq, toRV_fields]
  rfl

/-! memory -/
/-- the blocks behind the two arguments', but for one -/
def NB (n gb : Nat) (W : World) : Nat → Prop := fun b => n + 2 ≤ b ∧ b < W.heap.size ∧ b ≠ gb

/-- three plain maps: two of the arguments, and one that grows -/
structure ZSt (w : World) (gb : Nat) (m1 m2 m3 : List (ByteArray × RV)) (ca cb cc : List Value) (W : World) : Prop where
  below : Below w.heap.size w W
  a : Bk W w.heap.size 26 ca.toArray
  b : Bk W (w.heap.size + 1) 26 cb.toArray
  c : Bk W gb 26 cc.toArray
  hgb : w.heap.size + 2 ≤ gb
  va : RVAt (NB w.heap.size gb W) W (fieldsRV m1) ca
  vb : RVAt (NB w.heap.size gb W) W (fieldsRV m2) cb
  vc : RVAt (NB w.heap.size gb W) W (fieldsRV m3) cc
section
variable {w : World} {gb : Nat} {m1 m2 m3 m4 : List (ByteArray × RV)} {ca cb cc : List Value} {W W' : World}
theorem ZSt.call (h : ZSt w gb m1 m2 m3 ca cb cc W) (hb : Below W.heap.size W W') : ZSt w gb m1 m2 m3 ca cb cc W' := by
  have hm : ∀ b, NB w.heap.size gb W b → NB w.heap.size gb W' b := fun b hb' => ⟨hb'.1, Nat.lt_of_lt_of_le hb'.2.1 hb.size, hb'.2.2⟩
  have hk : Keeps (NB w.heap.size gb W) W W' := Keeps.below hb fun b hb => hb.2.1
  exact ⟨h.below.trans (hb.mono h.below.size), h.a.below hb h.a.lt, h.b.below hb h.b.lt, h.c.below hb h.c.lt, h.hgb, (h.va.keeps hk).mono hm, (h.vb.keeps hk).mono hm, (h.vc.keeps hk).mono hm⟩
/-- the third is stored anew -/
theorem ZSt.store (h : ZSt w gb m1 m2 m3 ca cb cc W) (hb : Below W.heap.size W W') {d0 d1 d2 d3 d4 d5 : Value} (hv : RVAt (fun b => NB w.heap.size gb W b ∨ Fr W.heap.size W' b) W' (fieldsRV m4) [d0, d1, d2, d3, d4, d5]) :
    ZSt w gb m1 m2 m4 ca cb [d0, d1, d2, d3, d4, d5] (set6 W' gb d0 d1 d2 d3 d4 d5) := by
  have h' := h.call hb
  have hs := set6_heap W' gb d0 d1 d2 d3 d4 d5
  have hz := set6_size W' gb d0 d1 d2 d3 d4 d5
  have hgl := h.c.lt
  have hg := h.hgb
  have hk : Keeps (NB w.heap.size gb W') W' (set6 W' gb d0 d1 d2 d3 d4 d5) := fun b hb => hs b hb.2.2
  have hm : ∀ b, NB w.heap.size gb W' b → NB w.heap.size gb (set6 W' gb d0 d1 d2 d3 d4 d5) b := fun b hb' => ⟨hb'.1, by rw [hz]; exact hb'.2.1, hb'.2.2⟩
  have hw := h.below.size
  have hWW := hb.size
  obtain ⟨KA, kc, LA, lc, rfl⟩ := h.vc.fields
  refine ⟨set6_below _ _ _ _ _ _ h'.below (by omega), (hs _ (by omega)).trans h'.a, (hs _ (by omega)).trans h'.b, set6_same _ _ _ _ _ _ h'.c, hg, (h'.va.keeps hk).mono hm, (h'.vb.keeps hk).mono hm, ((hv.mono fun b hb => ?_).keeps hk).mono hm⟩
  rcases hb with hb | hb
  · exact ⟨hb.1, Nat.lt_of_lt_of_le hb.2.1 hWW, hb.2.2⟩
  · exact ⟨by have := hb.1; omega, hb.2, by have := hb.1; omega⟩
end

/-- at the head of the first loop: i fields of the second have been laid into the third -/
def ZL1 (w : World) (gb : Nat) (m1 m2 : List (ByteArray × RV)) (ca cb : List Value) (s : Value) (W : World) : Prop :=
  ∃ (i : Nat) (cc : List Value), s = .int .i64 (i : Int) ∧ i ≤ m2.length ∧ ZSt w gb m1 m2 (foldM m1 (m2.take i)) ca cb cc W

/-- the cells that a round of the first loop loads -/
structure ZS1 (g gb b o i nl lc : Nat) (c0 c1 c2 c3 c4 c5 d0 d1 d2 d3 d4 d5 : Value) (W : World) : Prop where
  b5 : W.cell? ⟨g + 1, 5, none⟩ = some (.slice (some ⟨b, o, none⟩) nl lc)
  c0 : W.cell? ⟨gb, 0, none⟩ = some c0
  c1 : W.cell? ⟨gb, 1, none⟩ = some c1
  c2 : W.cell? ⟨gb, 2, none⟩ = some c2
  c3 : W.cell? ⟨gb, 3, none⟩ = some c3
  c4 : W.cell? ⟨gb, 4, none⟩ = some c4
  c5 : W.cell? ⟨gb, 5, none⟩ = some c5
  d0 : W.cell? ⟨b, o + i * 6, none⟩ = some d0
  d1 : W.cell? ⟨b, o + i * 6 + 1, none⟩ = some d1
  d2 : W.cell? ⟨b, o + i * 6 + 2, none⟩ = some d2
  d3 : W.cell? ⟨b, o + i * 6 + 3, none⟩ = some d3
  d4 : W.cell? ⟨b, o + i * 6 + 4, none⟩ = some d4
  d5 : W.cell? ⟨b, o + i * 6 + 5, none⟩ = some d5
theorem ZS1.below {g gb b o i nl lc : Nat} {c0 c1 c2 c3 c4 c5 d0 d1 d2 d3 d4 d5 : Value} {W W' : World} (h : ZS1 g gb b o i nl lc c0 c1 c2 c3 c4 c5 d0 d1 d2 d3 d4 d5 W) (hb : Below W.heap.size W W') (h1 : g + 1 < W.heap.size) (h2 : gb < W.heap.size) (h3 : b < W.heap.size) : ZS1 g gb b o i nl lc c0 c1 c2 c3 c4 c5 d0 d1 d2 d3 d4 d5 W' := by
  have e := (bcell hb).1
  exact ⟨(e _ _ h1).trans h.b5, (e _ _ h2).trans h.c0, (e _ _ h2).trans h.c1, (e _ _ h2).trans h.c2, (e _ _ h2).trans h.c3, (e _ _ h2).trans h.c4, (e _ _ h2).trans h.c5, (e _ _ h3).trans h.d0, (e _ _ h3).trans h.d1, (e _ _ h3).trans h.d2, (e _ _ h3).trans h.d3, (e _ _ h3).trans h.d4, (e _ _ h3).trans h.d5⟩

/-- the rows of a plain map -/
theorem RVAt.rows {F : Nat → Prop} {w : World} {m : List (ByteArray × RV)} {KA LA : Option Addr} {kn kc ln lc : Nat} {a b c d : Value} (h : RVAt F w (fieldsRV m) [a, b, c, d, .slice KA kn kc, .slice LA ln lc]) :
    Row F w 1 KA m.length (m.map fun p => Value.string p.1) ∧ ∃ xs, Row F w 6 LA m.length xs ∧ RVs F w (m.map Prod.snd) xs ∧ ∀ p ∈ m, p.1.size ≤ R47 := by
  unfold fieldsRV at h
  generalize hk : m.map Prod.fst = keys at h
  generalize hv : m.map Prod.snd = vals at h
  have e1 : keys.length = m.length := by rw [← hk]; simp
  have e2 : vals.length = m.length := by rw [← hv]; simp
  cases h with
  | @mk _ _ _ _ _ _ _ _ _ _ xs h1 h2 h3 h4 h5 h6 h7 h8 h9 h10 h11 hK hL hx =>
    refine ⟨?_, xs, by rw [← e2]; exact hL, ⟨by have := hL.1; omega, hx⟩, fun p hp => h5 _ (by rw [← hk]; exact List.mem_map.2 ⟨p, hp, rfl⟩)⟩
    rw [← e1]
    have e : (m.map fun p => Value.string p.1) = keys.map Value.string := by rw [← hk]; simp
    rw [e]
    exact hK

theorem zst_start {w W w1 w2 : World} {m1 m2 : List (ByteArray × RV)} {a0 a1 a2 a3 a4 a5 b0 b1 b2 b3 b4 b5 c0 c1 c2 c3 c4 c5 d0 d1 d2 d3 d4 d5 : Value} {t : TypeId}
    (st1 : B2 w t a0 a1 a2 a3 a4 a5 b0 b1 b2 b3 b4 b5 w1) (st2 : B2 w 26 a0 a1 a2 a3 a4 a5 b0 b1 b2 b3 b4 b5 w2) (hb2 : Below w1.heap.size w1 w2) (hW : w.heap.size + 2 ≤ W.heap.size)
    (h1 : RVAt (fun b => False ∨ Fr W.heap.size w1 b) w1 (fieldsRV m1) [c0, c1, c2, c3, c4, c5]) (h2 : RVAt (fun b => False ∨ Fr w1.heap.size w2 b) w2 (fieldsRV m2) [d0, d1, d2, d3, d4, d5]) :
    ZSt w w2.heap.size m1 m2 m1 [c0, c1, c2, c3, c4, c5] [d0, d1, d2, d3, d4, d5] [c0, c1, c2, c3, c4, c5] ((set6 (set6 w2 w.heap.size c0 c1 c2 c3 c4 c5) (w.heap.size + 1) d0 d1 d2 d3 d4 d5).alloc (.cells #[c0, c1, c2, c3, c4, c5] 26)) := by
  have s1 := st1.size2
  have s2 := st2.size2
  have s3 := hb2.size
  have ha := set6_same c0 c1 c2 c3 c4 c5 st2.a
  have hb := set6_same d0 d1 d2 d3 d4 d5 (show Bk (set6 w2 w.heap.size c0 c1 c2 c3 c4 c5) (w.heap.size + 1) _ _ from (set6_heap w2 w.heap.size c0 c1 c2 c3 c4 c5 _ (by omega)).trans st2.b)
  have hz : (set6 (set6 w2 w.heap.size c0 c1 c2 c3 c4 c5) (w.heap.size + 1) d0 d1 d2 d3 d4 d5).heap.size = w2.heap.size := by rw [set6_size, set6_size]
  have hkk : ∀ b, w.heap.size + 2 ≤ b → b < w2.heap.size → ((set6 (set6 w2 w.heap.size c0 c1 c2 c3 c4 c5) (w.heap.size + 1) d0 d1 d2 d3 d4 d5).alloc (.cells #[c0, c1, c2, c3, c4, c5] 26)).heap[b]? = w2.heap[b]? := by
    intro b h1 h2
    rw [Below.heap_alloc _ _ _ (by rw [hz]; exact h2), set6_heap _ _ _ _ _ _ _ _ _ (by omega), set6_heap _ _ _ _ _ _ _ _ _ (by omega)]
  have hm : ∀ b, w.heap.size + 2 ≤ b ∧ b < w2.heap.size → NB w.heap.size w2.heap.size ((set6 (set6 w2 w.heap.size c0 c1 c2 c3 c4 c5) (w.heap.size + 1) d0 d1 d2 d3 d4 d5).alloc (.cells #[c0, c1, c2, c3, c4, c5] 26)) b := by
    intro b hb
    refine ⟨hb.1, ?_, by omega⟩
    rw [World.size_alloc, hz]
    omega
  have k1 : RVAt (NB w.heap.size w2.heap.size ((set6 (set6 w2 w.heap.size c0 c1 c2 c3 c4 c5) (w.heap.size + 1) d0 d1 d2 d3 d4 d5).alloc (.cells #[c0, c1, c2, c3, c4, c5] 26))) ((set6 (set6 w2 w.heap.size c0 c1 c2 c3 c4 c5) (w.heap.size + 1) d0 d1 d2 d3 d4 d5).alloc (.cells #[c0, c1, c2, c3, c4, c5] 26)) (fieldsRV m1) [c0, c1, c2, c3, c4, c5] :=
    ((((h1.keeps (Keeps.below hb2 fun b hb => hb.elim (fun h => h.elim) fun h => h.2)).mono (G := fun b => w.heap.size + 2 ≤ b ∧ b < w2.heap.size) fun b hb => hb.elim (fun h => h.elim) fun h => ⟨by have := h.1; omega, by have := h.2; omega⟩)).keeps fun b hb => hkk b hb.1 hb.2).mono hm
  have k2 : RVAt (NB w.heap.size w2.heap.size ((set6 (set6 w2 w.heap.size c0 c1 c2 c3 c4 c5) (w.heap.size + 1) d0 d1 d2 d3 d4 d5).alloc (.cells #[c0, c1, c2, c3, c4, c5] 26))) ((set6 (set6 w2 w.heap.size c0 c1 c2 c3 c4 c5) (w.heap.size + 1) d0 d1 d2 d3 d4 d5).alloc (.cells #[c0, c1, c2, c3, c4, c5] 26)) (fieldsRV m2) [d0, d1, d2, d3, d4, d5] :=
    ((h2.mono (G := fun b => w.heap.size + 2 ≤ b ∧ b < w2.heap.size) fun b hb => hb.elim (fun h => h.elim) fun h => ⟨by have := h.1; omega, h.2⟩).keeps fun b hb => hkk b hb.1 hb.2).mono hm
  refine ⟨(set6_below _ _ _ _ _ _ (set6_below _ _ _ _ _ _ st2.below (Nat.le_refl _)) (by omega)).alloc (by rw [hz]; omega) _, Bk.alloc ?_ _, hb.alloc _, ?_, s2, k1, k2, k1⟩
  · exact (set6_heap _ _ _ _ _ _ _ _ _ (by omega)).trans ha
  · have := Bk.new (set6 (set6 w2 w.heap.size c0 c1 c2 c3 c4 c5) (w.heap.size + 1) d0 d1 d2 d3 d4 d5) 26 #[c0, c1, c2, c3, c4, c5]
    rw [hz] at this
    exact this

/-- the struct of a key, half made; what lies in it lies in F or is new -/
structure ZMidG (F : Nat → Prop) (W : World) (k : ByteArray) (va vb : Value) (o1 o2 : Option T) (W' : World) : Prop where
  z : Bk W' W.heap.size 57 #[.string k, va, vb]
  below : Below W.heap.size W W'
  a : OptRow (fun b => F b ∨ Fr (W.heap.size + 1) W' b) W' o1 va
  b : OptRow (fun b => F b ∨ Fr (W.heap.size + 1) W' b) W' o2 vb
section
variable {F : Nat → Prop} {W W' w1 : World} {k : ByteArray} {va vb : Value} {o1 o2 : Option T} {t : T} {cs : List Value}
theorem ZMidG.first (F : Nat → Prop) (W : World) (k : ByteArray) : ZMidG F W k (.slice none 0 0) (.slice none 0 0) none none (W.alloc (.cells #[.string k, .slice none 0 0, .slice none 0 0] 57)) :=
  ⟨Bk.new W _ _, (Below.refl _ _).alloc (Nat.le_refl _) _, rfl, rfl⟩
theorem ZMidG.call (h : ZMidG F W k va vb o1 o2 W') (hF : ∀ b, F b → b < W.heap.size) (hb : Below W'.heap.size W' w1) : ZMidG F W k va vb o1 o2 w1 := by
  have hs := h.below.size
  have kk : Keeps (fun b => F b ∨ Fr (W.heap.size + 1) W' b) W' w1 := Keeps.below hb fun b h => h.elim (fun h => by have := hF b h; omega) fun h => h.2
  have mm : ∀ b, (F b ∨ Fr (W.heap.size + 1) W' b) → F b ∨ Fr (W.heap.size + 1) w1 b := fun b h => h.imp id fun h => ⟨h.1, Nat.lt_of_lt_of_le h.2 hb.size⟩
  exact ⟨h.z.below hb h.z.lt, h.below.trans (hb.mono h.below.size), (h.a.keeps kk).mono mm, (h.b.keeps kk).mono mm⟩
theorem optRow_made {G : Nat → Prop} {W' w2 : World} (hcc : RVAt G w2 t.toRV cs) (hG : ∀ b, G b → b < w2.heap.size) : OptRow (fun b => G b ∨ b = w2.heap.size) (w2.alloc (.cells cs.toArray 26)) (some t) (.slice (some ⟨w2.heap.size, 0, none⟩) 1 1) := by
  have hl := hcc.len
  refine ⟨_, 1, cs, rfl, Nat.le_refl _, by simp [maxLen], ⟨by simpa using hl, fun _ => ⟨w2.heap.size, 0, rfl, .inr rfl, fun j u hu => ?_⟩⟩, (hcc.keeps (Keeps.alloc _ _ hG)).mono fun b h => .inl h⟩
  have := (Bk.new w2 26 cs.toArray).cell j
  rw [Nat.zero_add, this]
  simpa using hu
theorem ZMidG.setA (h : ZMidG F W k va vb o1 o2 W') (hF : ∀ b, F b → b < W.heap.size) (hb : Below W'.heap.size W' w1) (hcc : RVAt F w1 t.toRV cs) :
    ZMidG F W k (.slice (some ⟨w1.heap.size, 0, none⟩) 1 1) vb (some t) o2 ((w1.setCell ⟨W.heap.size, 1, none⟩ (.slice (some ⟨w1.heap.size, 0, none⟩) 1 1)).alloc (.cells cs.toArray 26)) := by
  have h1 := h.call hF hb
  have hs1 := h1.below.size
  rw [← World.setCell_alloc_past _ _ _ _ h1.z.lt]
  have hlt := h1.z.lt
  have hm := optRow_made (W' := W') hcc fun b hb => by have := hF b hb; omega
  have hz := (h1.z.alloc (.cells cs.toArray 26)).set_ 1 (.slice (some ⟨w1.heap.size, 0, none⟩) 1 1)
  simp at hz
  have h2 := h1.call hF (Below.refl _ _ |>.alloc (Nat.le_refl _) (.cells cs.toArray 26))
  have kk : ∀ b, (F b ∨ Fr (W.heap.size + 1) (w1.alloc (.cells cs.toArray 26)) b) → b ≠ W.heap.size := fun b hb => hb.elim (fun h => by have := hF b h; omega) fun h => by have := h.1; omega
  have mm : ∀ b, (F b ∨ Fr (W.heap.size + 1) (w1.alloc (.cells cs.toArray 26)) b) → (F b ∨ Fr (W.heap.size + 1) ((w1.alloc (.cells cs.toArray 26)).setCell ⟨W.heap.size, 1, none⟩ (.slice (some ⟨w1.heap.size, 0, none⟩) 1 1)) b) := fun b hb => hb.imp id fun h => ⟨h.1, by simpa using h.2⟩
  exact ⟨hz, h2.below.setCell (by show W.heap.size ≤ W.heap.size; exact Nat.le_refl _) _, ((hm.mono fun b hb => hb.imp id fun e => ⟨by omega, by simp; omega⟩).keeps (Keeps.setCell _ _ _ kk)).mono mm, (h2.b.keeps (Keeps.setCell _ _ _ kk)).mono mm⟩
theorem ZMidG.setB (h : ZMidG F W k va vb o1 o2 W') (hF : ∀ b, F b → b < W.heap.size) (hb : Below W'.heap.size W' w1) (hcc : RVAt F w1 t.toRV cs) :
    ZMidG F W k va (.slice (some ⟨w1.heap.size, 0, none⟩) 1 1) o1 (some t) ((w1.setCell ⟨W.heap.size, 2, none⟩ (.slice (some ⟨w1.heap.size, 0, none⟩) 1 1)).alloc (.cells cs.toArray 26)) := by
  have h1 := h.call hF hb
  have hs1 := h1.below.size
  rw [← World.setCell_alloc_past _ _ _ _ h1.z.lt]
  have hlt := h1.z.lt
  have hm := optRow_made (W' := W') hcc fun b hb => by have := hF b hb; omega
  have hz := (h1.z.alloc (.cells cs.toArray 26)).set_ 2 (.slice (some ⟨w1.heap.size, 0, none⟩) 1 1)
  simp at hz
  have h2 := h1.call hF (Below.refl _ _ |>.alloc (Nat.le_refl _) (.cells cs.toArray 26))
  have kk : ∀ b, (F b ∨ Fr (W.heap.size + 1) (w1.alloc (.cells cs.toArray 26)) b) → b ≠ W.heap.size := fun b hb => hb.elim (fun h => by have := hF b h; omega) fun h => by have := h.1; omega
  have mm : ∀ b, (F b ∨ Fr (W.heap.size + 1) (w1.alloc (.cells cs.toArray 26)) b) → (F b ∨ Fr (W.heap.size + 1) ((w1.alloc (.cells cs.toArray 26)).setCell ⟨W.heap.size, 2, none⟩ (.slice (some ⟨w1.heap.size, 0, none⟩) 1 1)) b) := fun b hb => hb.imp id fun h => ⟨h.1, by simpa using h.2⟩
  exact ⟨hz, h2.below.setCell (by show W.heap.size ≤ W.heap.size; exact Nat.le_refl _) _, (h2.a.keeps (Keeps.setCell _ _ _ kk)).mono mm, ((hm.mono fun b hb => hb.imp id fun e => ⟨by omega, by simp; omega⟩).keeps (Keeps.setCell _ _ _ kk)).mono mm⟩
end

/-- at the head of the second loop: i keys have been listed -/
def ZL2 (w W1 : World) (l1 l2 : List (ByteArray × T)) (ks : List ByteArray) (s8 s41 : Value) (W : World) : Prop :=
  ∃ (i : Nat) (A : Option Addr) (c : Nat) (us : List Value), s41 = .int .i64 (i : Int) ∧ i ≤ ks.length ∧ s8 = .slice A i c ∧ W.ownsRow W1.heap.size 57 3 (.slice A i c) i us ∧ Cells 3 (ZAt (FrX w.heap.size W (.slice A i c)) W l1 l2) (ks.take i) us ∧ Below W1.heap.size W1 W

theorem zl2_next {F : Nat → Prop} {w W1 W W5 w6 : World} {l1 l2 : List (ByteArray × T)} {ks : List ByteArray} {i c : Nat} {A : Option Addr} {us : List Value} {k : ByteArray} {va vb out' : Value} {o2 : Obj} (hF : ∀ b, F b → w.heap.size ≤ b ∧ b < W1.heap.size) (hw : w.heap.size ≤ W1.heap.size) (hk : ks[i]? = some k)
    (hown : W.ownsRow W1.heap.size 57 3 (.slice A i c) i us) (hus : Cells 3 (ZAt (FrX w.heap.size W (.slice A i c)) W l1 l2) (ks.take i) us) (hb : Below W1.heap.size W1 W)
    (hz : ZMidG F W k va vb (getT l1 k) (getT l2 k) W5)
    (hown2 : w6.ownsRow W1.heap.size 57 3 out' (i + 1) (us ++ [.string k, va, vb])) (hg2 : (W5.alloc o2).grownBy w6 (Value.slice A i c).ownBlock) (hat : out'.ownBlock = (Value.slice A i c).ownBlock ∨ out'.ownBlock = some (W5.alloc o2).heap.size) :
    ZL2 w W1 l1 l2 ks out' (.int .i64 ((i : Int) + 1)) w6 := by
  have s0 := hb.size
  have s1 := hz.below.size
  have s2 := hg2.size
  simp only [World.size_alloc] at s2
  have hlt := hown.lt
  have hlt2 := hown2.lt
  have hil := (List.getElem?_eq_some_iff.1 hk).1
  have hkk : ks[i] = k := (List.getElem?_eq_some_iff.1 hk).2
  have k2 : Keeps (FrX w.heap.size W (.slice A i c)) W w6 := by
    intro b hbb
    obtain ⟨q1, q2, q3⟩ := hbb
    rw [hg2.block b (by simp only [World.size_alloc]; omega) q3, Below.heap_alloc _ _ _ (by omega), hz.below.block b q2]
  have g2 : ∀ b, FrX w.heap.size W (.slice A i c) b → FrX w.heap.size w6 out' b := by
    rintro b ⟨q1, q2, q3⟩
    refine ⟨q1, by omega, ?_⟩
    rcases hat with e | e <;> rw [e]
    · exact q3
    · simp only [World.size_alloc, ne_eq, Option.some.injEq]; omega
  have hneF : ∀ b, F b ∨ Fr (W.heap.size + 1) W5 b → some b ≠ (Value.slice A i c).ownBlock := by
    rintro b (h | h) e
    · have := (hlt b e.symm).1
      have := (hF b h).2
      omega
    · have := (hlt b e.symm).2
      have := h.1
      omega
  have hltF : ∀ b, F b ∨ Fr (W.heap.size + 1) W5 b → w.heap.size ≤ b ∧ b < W5.heap.size := by
    rintro b (h | h)
    · have := hF b h
      omega
    · have := h.1
      have := h.2
      omega
  have k3 : Keeps (fun b => F b ∨ Fr (W.heap.size + 1) W5 b) W5 w6 := by
    intro b hb
    rw [hg2.block b (by simp only [World.size_alloc]; have := (hltF b hb).2; omega) (hneF b hb), Below.heap_alloc _ _ _ (hltF b hb).2]
  have g3 : ∀ b, (F b ∨ Fr (W.heap.size + 1) W5 b) → FrX w.heap.size w6 out' b := by
    intro b hb
    refine ⟨(hltF b hb).1, by have := (hltF b hb).2; omega, ?_⟩
    rcases hat with e | e <;> rw [e]
    · exact hneF b hb
    · have := (hltF b hb).2
      simp only [World.size_alloc, ne_eq, Option.some.injEq]; omega
  obtain ⟨A', c', rfl, hc1, hc2⟩ := own_form hown2
  refine ⟨i + 1, A', c', _, rfl, hil, rfl, hown2, ?_, ?_⟩
  · rw [List.take_succ_eq_append_getElem hil, hkk]
    exact (hus.mono fun a cs h => (h.keeps k2).mono g2).append (Cells.one ⟨va, vb, rfl, (hz.a.keeps k3).mono g3, (hz.b.keeps k3).mono g3⟩ rfl)
  · exact ((hb.trans (hz.below.mono hb.size)).alloc (by omega) o2).grown hg2 (by simp only [World.size_alloc]; omega) (fun g e => (hlt g e).1)

set_option maxRecDepth 100000 in
set_option maxHeartbeats 4000000 in
theorem specZip_calls (r1 r2 : RV) (w : World) (cs1 cs2 : List Value) (h1 : RVAt (Old w) w r1 cs1) (h2 : RVAt (Old w) w r2 cs2) (hn1 : r1.flds.length ≤ 2147483647) (hn2 : r2.flds.length ≤ 2147483647) :
    Calls Try.prog 28 #[.agg cs1.toArray, .agg cs2.toArray] w (GivesZip (bothK r1.flds r2.flds) r1.flds r2.flds w) := by
  obtain ⟨i57, hi57, hz57, hs57, hb57⟩ := info_parts zipped_info
  have H1 := fun (W : World) (hb : Below w.heap.size w W) => specPlainMap_all r1 W cs1 (h1.at_ hb)
  have H2 := fun (W : World) (hb : Below w.heap.size w W) => specPlainMap_all r2 W cs2 (h2.at_ hb)
  rw [plainMap_is] at H1 H2
  have H1 := hide H1
  have H2 := hide H2
  have hs1 := hide (flds_sorted r1)
  have hs2 := hide (flds_sorted r2)
  generalize r1.flds = l1 at *
  generalize r2.flds = l2 at *
  obtain ⟨x0, x1, x2, x3, xA, xn, xc, yA, yn, yc, rfl⟩ := h1.form
  obtain ⟨u0, u1, u2, u3, uA, un, uc, vA, vn, vc, rfl⟩ := h2.form
  clear h1 h2
  go_enter Try.func28, Try.ntmps28
  go_wp2_with fail
  have st := B2.made w 26 (.int .i64 x0) (.int .i64 x1) (.float .f64 x2) (.string x3) (.slice xA xn xc) (.slice yA yn yc) (.int .i64 u0) (.int .i64 u1) (.float .f64 u2) (.string u3) (.slice uA un uc) (.slice vA vn vc)
  generalize World.alloc _ _ = W at st ⊢
  replace st := st.call (below_drew (Below.refl _ _))
  have hS0 := st
  obtain ⟨S, hS⟩ : ∃ S, B2 w 26 (.int .i64 x0) (.int .i64 x1) (.float .f64 x2) (.string x3) (.slice xA xn xc) (.slice yA yn yc) (.int .i64 u0) (.int .i64 u1) (.float .f64 u2) (.string u3) (.slice uA un uc) (.slice vA vn vc) = S := ⟨_, rfl⟩
  rw [hS] at hS0
  refine wp_region_head 4 S (by rfl) (by kernel_rfl) ?_
  refine HT.take 0 (v := ?_) rfl (by kernel_rfl) (fun _ _ _ h => h) (Or.inl ⟨by rfl, ?_⟩) (by assumption) ?_
  rotate_left
  · intro W hSw; rw [← hS] at hSw; obtain ⟨s0, s1, s2, s3, s4, s5⟩ := Bx.of hSw.a; obtain ⟨t0, t1, t2, t3, t4, t5⟩ := Bx.of hSw.b; clear hSw; go_simp; with_reducible rfl
  simp only [Act.put, List.setIfInBounds_toArray, List.set_cons_zero, List.set_cons_succ]
  refine HT.take 2 (v := ?_) rfl (by kernel_rfl) (fun _ _ _ h => h) (Or.inl ⟨by rfl, ?_⟩) (by assumption) ?_
  rotate_left
  · intro W hSw; rw [← hS] at hSw; obtain ⟨s0, s1, s2, s3, s4, s5⟩ := Bx.of hSw.a; obtain ⟨t0, t1, t2, t3, t4, t5⟩ := Bx.of hSw.b; clear hSw; go_simp; with_reducible rfl
  simp only [Act.put, List.setIfInBounds_toArray, List.set_cons_zero, List.set_cons_succ]
  refine HT.one 1 rfl (by kernel_rfl) (by rfl) (fun K hK => ?_)
  go_simp
  refine (H1.out _ st.below).mono ?_
  rintro e w1 ⟨ds1, rfl, hd1, hb1⟩
  have st1 := st.call hb1
  obtain ⟨aK, akc, aL, alc, rfl⟩ := hd1.fields
  go_simp
  refine hK.out _ _ (by rw [← hS]; exact st1) ?_
  clear hK
  refine HT.one 3 rfl (by kernel_rfl) (by rfl) (fun K hK => ?_)
  go_simp
  refine (H2.out _ st1.below).mono ?_
  rintro e w2 ⟨ds2, rfl, hd2, hb2⟩
  have st2 := st1.call hb2
  obtain ⟨bK, bkc, bL, blc, rfl⟩ := hd2.fields
  go_simp
  refine hK.out _ _ (by rw [← hS]; exact st2) ?_
  clear hK
  refine HT.done (by kernel_rfl) ?_
  simp only [List.drop_succ_cons, List.drop_zero]
  have fz0 : ∀ i, w2.frozen? ⟨w.heap.size, i, none⟩ = false := fun i => st2.a.free i
  have fz1 : ∀ i, w2.frozen? ⟨w.heap.size + 1, i, none⟩ = false := fun i => st2.b.free i
  obtain ⟨p0, p1, p2, p3, p4, p5⟩ := Bx.of st2.a
  obtain ⟨q0, q1, q2, q3, q4, q5⟩ := Bx.of st2.b
  have Hst := hide (zst_start st1 st2 hb2 (W := W.drew) st.size2 hd1 hd2)
  clear hS0 hS hd1 hd2 hb1 hb2 st1 st2 st H1 H2
  rw [show (mRV l1).length = l1.length by simp [mRV], show (mRV l2).length = l2.length by simp [mRV]] at *
  go_upto_region 3 with fail
  have st := Hst.out
  unfold set6 at st
  clear Hst fz0 fz1 p0 p1 p2 p3 p4 p5 q0 q1 q2 q3 q4 q5
  generalize World.alloc _ _ = W3 at st ⊢
  generalize w2.heap.size = gb at st ⊢
  have hm1 : (mRV l1).length = l1.length := by simp [mRV]
  have hm2 : (mRV l2).length = l2.length := by simp [mRV]
  have hgb := st.hgb
  obtain ⟨q0, q1, q2, q3, q4, q5⟩ := Bx.of st.b
  have St := hide st
  have Hm := hide (And.intro hm1 hm2)
  have Hso1 := hide (mRV_sorted hs1.out)
  have Hso2 := hide (mRV_sorted hs2.out)
  clear st hm1
  go_wp2_with fail
  clear q0 q1 q2 q3 q4 q5
  go_loopw [24] (fun s wr => ZL1 w gb (mRV l1) (mRV l2) _ _ s wr) (fun s _ => l2.length - (intOf s).toNat)
  case atStart => exact ⟨0, _, rfl, Nat.zero_le _, by rw [List.take_zero]; exact St.out⟩
  case round =>
    obtain ⟨i, cc, rfl, hi, st⟩ := hrel
    rw [hm2] at hi
    by_cases hlt : i < l2.length
    · obtain ⟨hKr, xs, hLr, hxs, hks⟩ := st.vb.rows
      have hlt' : i < (mRV l2).length := by omega
      obtain ⟨cK, ckc, cL, clc, rfl⟩ := st.vc.fields
      obtain ⟨b, o, rfl, hFb, hkc⟩ := row1_at (u := .string (mRV l2)[i].1) hKr hlt' (by simp [hlt'])
      have hval := hxs.2 i (mRV l2)[i].2 (by simp [hlt'])
      have hk47 := hks _ (List.getElem_mem hlt')
      have hsn := foldM_snoc (mRV l1) (mRV l2) i hlt'
      have hfl := foldM_length (mRV l1) ((mRV l2).take i)
      have hfs := foldM_sorted (m2 := (mRV l2).take i) Hso1.out
      generalize (mRV l2)[i] = p at hkc hval hk47 hsn
      obtain ⟨key, rv⟩ := p
      simp only at hkc hval hk47 hsn
      generalize hcs : (xs.drop (i * 6)).take 6 = vcs at hval
      obtain ⟨v0, v1, v2, v3, vA1, vn1, vc1, vB1, vm1, vd1, rfl⟩ := hval.form
      obtain ⟨b', o', rfl, hFb', k0, k1, k2, k3, k4, k5⟩ := row6_at hLr hlt' hcs
      generalize hm3 : foldM (mRV l1) ((mRV l2).take i) = m3 at *
      have hl3 : m3.length ≤ 4294967294 := by
        rw [List.length_take] at hfl
        have := Hm.out.1
        have := Hm.out.2
        omega
      have hki0 : (0 : Int) ≤ (i : Int) := Int.natCast_nonneg _
      have hki1 : (i : Int) < (l2.length : Int) := by omega
      have hlb : b < wr.heap.size := hFb.2.1
      have hlb' : b' < wr.heap.size := hFb'.2.1
      have hlg : gb < wr.heap.size := st.c.lt
      have hlw : w.heap.size + 1 < wr.heap.size := by omega
      obtain ⟨c0, c1, c2, c3, c4, c5⟩ := Bx.of st.c
      have q5 := st.b.cell 5
      simp at q5
      have hz1 : ZS1 w.heap.size gb b' o' i l2.length blc (.int .i64 6) (.int .i64 0) (.float .f64 0) (.string ⟨#[]⟩) (.slice cK m3.length ckc) (.slice cL m3.length clc) (.int .i64 v0) (.int .i64 v1) (.float .f64 v2) (.string v3) (.slice vA1 vn1 vc1) (.slice vB1 vm1 vd1) wr :=
        ⟨q5, c0, c1, c2, c3, c4, c5, k0, k1, k2, k3, k4, k5⟩
      have hwf := withField_calls m3 hfs (NB w.heap.size gb wr) wr.drew (fun b hb => hb.2.1) 6 0 0 ⟨#[]⟩ key rv _ _ (by unfold R47; omega) (by unfold R47; omega) hk47 (st.vc.keeps (w' := wr.drew) fun b hb => rfl) (hval.keeps (w' := wr.drew) fun b hb => rfl)
      have Hwf := hide hwf
      have St := hide st
      have Hz1 := hide hz1
      have Hsn := hide hsn
      clear hKr hLr hxs hks hFb hval hk47 hsn hfl hfs hcs hFb' k0 k1 k2 k3 k4 k5 hm3 c0 c1 c2 c3 c4 c5 q5 st hz1 hwf hi
      go_wp2_with fail
      have hS0 := Hz1.out.below (below_drew (Below.refl _ _)) hlw hlg hlb'
      obtain ⟨S, hS⟩ : ∃ S, ZS1 w.heap.size gb b' o' i l2.length blc (.int .i64 6) (.int .i64 0) (.float .f64 0) (.string ⟨#[]⟩) (.slice cK m3.length ckc) (.slice cL m3.length clc) (.int .i64 v0) (.int .i64 v1) (.float .f64 v2) (.string v3) (.slice vA1 vn1 vc1) (.slice vB1 vm1 vd1) = S := ⟨_, rfl⟩
      rw [hS] at hS0
      refine wp_region_head 8 S (by rfl) (by kernel_rfl) ?_
      refine HT.take 0 (v := ?_) rfl (by kernel_rfl) (fun _ _ _ h => h) (Or.inl ⟨by rfl, ?_⟩) (by assumption) ?_
      rotate_left
      · intro W hSw; rw [← hS] at hSw; obtain ⟨s1, s2, s3, s4, s5, s6, s7, s8, s9, s10, s11, s12, s13⟩ := hSw; go_simp; with_reducible rfl
      simp only [Act.put, List.setIfInBounds_toArray, List.set_cons_zero, List.set_cons_succ]
      refine HT.take 1 (v := ?_) rfl (by kernel_rfl) (fun _ _ _ h => h) (Or.inl ⟨by rfl, ?_⟩) (by assumption) ?_
      rotate_left
      · intro W hSw; rw [← hS] at hSw; obtain ⟨s1, s2, s3, s4, s5, s6, s7, s8, s9, s10, s11, s12, s13⟩ := hSw; go_simp; with_reducible rfl
      simp only [Act.put, List.setIfInBounds_toArray, List.set_cons_zero, List.set_cons_succ]
      refine HT.take 2 (v := ?_) rfl (by kernel_rfl) (fun _ _ _ h => h) (Or.inl ⟨by rfl, ?_⟩) (by assumption) ?_
      rotate_left
      · intro W hSw; rw [← hS] at hSw; obtain ⟨s1, s2, s3, s4, s5, s6, s7, s8, s9, s10, s11, s12, s13⟩ := hSw; go_simp; with_reducible rfl
      simp only [Act.put, List.setIfInBounds_toArray, List.set_cons_zero, List.set_cons_succ]
      refine HT.take 3 (v := ?_) rfl (by kernel_rfl) (fun _ _ _ h => h) (Or.inl ⟨by rfl, ?_⟩) (by assumption) ?_
      rotate_left
      · intro W hSw; rw [← hS] at hSw; obtain ⟨s1, s2, s3, s4, s5, s6, s7, s8, s9, s10, s11, s12, s13⟩ := hSw; go_simp; with_reducible rfl
      simp only [Act.put, List.setIfInBounds_toArray, List.set_cons_zero, List.set_cons_succ]
      refine HT.take 4 (v := ?_) rfl (by kernel_rfl) (fun _ _ _ h => h) (Or.inl ⟨by rfl, ?_⟩) (by assumption) ?_
      rotate_left
      · intro W hSw; rw [← hS] at hSw; obtain ⟨s1, s2, s3, s4, s5, s6, s7, s8, s9, s10, s11, s12, s13⟩ := hSw; go_simp; with_reducible rfl
      simp only [Act.put, List.setIfInBounds_toArray, List.set_cons_zero, List.set_cons_succ]
      refine HT.take 5 (v := ?_) rfl (by kernel_rfl) (fun _ _ _ h => h) (Or.inl ⟨by rfl, ?_⟩) (by assumption) ?_
      rotate_left
      · intro W hSw; rw [← hS] at hSw; obtain ⟨s1, s2, s3, s4, s5, s6, s7, s8, s9, s10, s11, s12, s13⟩ := hSw; go_simp; with_reducible rfl
      simp only [Act.put, List.setIfInBounds_toArray, List.set_cons_zero, List.set_cons_succ]
      refine HT.take 6 (v := ?_) rfl (by kernel_rfl) (fun _ _ _ h => h) (Or.inl ⟨by rfl, ?_⟩) (by assumption) ?_
      rotate_left
      · intro W hSw; rw [← hS] at hSw; obtain ⟨s1, s2, s3, s4, s5, s6, s7, s8, s9, s10, s11, s12, s13⟩ := hSw; go_simp; with_reducible rfl
      simp only [Act.put, List.setIfInBounds_toArray, List.set_cons_zero, List.set_cons_succ]
      refine HT.one 7 rfl (by kernel_rfl) (by rfl) (fun K hK => ?_)
      go_simp
      refine Hwf.out.mono ?_
      rintro e w7 ⟨es, rfl, he, hb7⟩
      have hb7' : Below wr.heap.size wr w7 := below_drew' hb7
      obtain ⟨eK, ekc, eL, elc, rfl⟩ := he.fields
      go_simp
      refine hK.out _ _ (by rw [← hS]; exact Hz1.out.below hb7' hlw hlg hlb') ?_
      clear hK
      refine HT.done (by kernel_rfl) ?_
      simp only [List.drop_succ_cons, List.drop_zero]
      have hnx := St.out.store hb7' he
      have hc7 := St.out.c.below hb7' hlg
      have fz : ∀ i, w7.frozen? ⟨gb, i, none⟩ = false := fun i => hc7.free i
      obtain ⟨c0, c1, c2, c3, c4, c5⟩ := Bx.of hc7
      unfold set6 at hnx
      have Hnx := hide hnx
      clear hS0 hS hb7 hb7' he hnx hc7 Hz1 Hwf
      go_wp2_with fail
      have hnx := Hnx.out
      generalize World.setCell _ _ _ = W8 at hnx ⊢
      exact ⟨⟨i + 1, _, rfl, by omega, by rw [Hsn.out]; exact hnx⟩, by simp [intOf]; omega⟩
    · have hie : i = l2.length := by omega
      subst hie
      rw [List.take_of_length_le (by omega)] at st
      have hks := foldM_both hs1.out hs2.out
      have hbl := both_length l1 l2 hs1.out hs2.out
      have hn3 : (bothK l1 l2).length ≤ 4294967294 := by omega
      generalize bothK l1 l2 = ks at *
      have hm3 : (foldM (mRV l1) (mRV l2)).length = ks.length := by rw [← hks]; simp
      obtain ⟨cK, ckc, cL, clc, rfl⟩ := st.vc.fields
      have hKr := st.vc.rows.1
      have e3 : ((foldM (mRV l1) (mRV l2)).map fun p => Value.string p.1) = ks.map Value.string := by rw [← hks]; simp
      rw [hm3, e3] at hKr
      rw [hm3] at st
      have hF : ∀ b, NB w.heap.size gb wr b → w.heap.size ≤ b ∧ b < wr.heap.size := fun b hb => ⟨by have := hb.1; omega, hb.2.1⟩
      have hwr : w.heap.size ≤ wr.heap.size := st.below.size
      have hva := st.va
      have hvb := st.vb
      have q4 := st.c.cell 4
      simp at q4
      have hgl := st.c.lt
      have hab : w.heap.size + 1 < wr.heap.size := st.b.lt
      have St := hide (And.intro st (And.intro hKr (And.intro hva hvb)))
      have HF := hide hF
      generalize hFF : NB w.heap.size gb wr = F at *
      clear st hKr hva hvb hks hm3 e3 hbl hFF hF hlt hi
      obtain ⟨W1, rfl⟩ : ∃ W1 : World, W1 = wr := ⟨_, rfl⟩
      go_wp2_with fail
      clear q4
      go_loopw [8, 41] (fun s8 s41 W => ZL2 w W1 l1 l2 ks s8 s41 W) (fun _ s41 _ => ks.length - (intOf s41).toNat)
      case atStart => exact ⟨0, none, 0, [], rfl, Nat.zero_le _, rfl, World.ownsRow_nil _ _ _ _, Cells.nil_, Below.refl _ _⟩
      case round =>
        obtain ⟨i, A, c, us, rfl, hi, rfl, hown, hus, hb⟩ := hrel
        by_cases hlt : i < ks.length
        · have hgk : ks[i]? = some ks[i] := List.getElem?_eq_getElem hlt
          obtain ⟨b, o, rfl, hFb, hkc⟩ := row1_at (u := .string ks[i]) St.out.2.1 hlt (by simp [hlt])
          rw [← (bcell hb).1 _ _ (HF.out b hFb).2] at hkc
          generalize ks[i] = key at hgk hkc
          have st := St.out.1.call hb
          have hva := St.out.2.2.1.keeps (Keeps.below hb fun b hb => (HF.out b hb).2)
          have hvb := St.out.2.2.2.keeps (Keeps.below hb fun b hb => (HF.out b hb).2)
          have hbs := hb.size
          have hFW : ∀ b, F b → b < wr.heap.size := fun b h => Nat.lt_of_lt_of_le (HF.out b h).2 hbs
          have Hnx := fun W5 w6 va vb out' o2 => hide (zl2_next (W5 := W5) (w6 := w6) (va := va) (vb := vb) (out' := out') (o2 := o2) HF.out hwr hgk hown hus hb)
          have hF1 := fun (W' : World) (hb' : Below wr.heap.size wr W') => field2_calls (F := F) (mRV l1) Hso1.out W' (fun b hb => Nat.lt_of_lt_of_le (hFW b hb) hb'.size) key _ (hva.keeps (Keeps.below hb' hFW))
          have hF2 := fun (W' : World) (hb' : Below wr.heap.size wr W') => field2_calls (F := F) (mRV l2) Hso2.out W' (fun b hb => Nat.lt_of_lt_of_le (hFW b hb) hb'.size) key _ (hvb.keeps (Keeps.below hb' hFW))
          unfold FieldIs at hF1 hF2
          rw [mRV_getT] at hF1 hF2
          have HF1 := hide hF1
          have HF2 := hide hF2
          have HFW := hide hFW
          have hki0 : (0 : Int) ≤ (i : Int) := Int.natCast_nonneg _
          have hki1 : (i : Int) < (ks.length : Int) := by omega
          have St2 := hide (And.intro st hown)
          have hg0 := st.a.lt
          have hg1 := st.b.lt
          obtain ⟨p0, p1, p2, p3, p4, p5⟩ := Bx.of st.a
          obtain ⟨q0, q1, q2, q3, q4, q5⟩ := Bx.of st.b
          clear hgk hFb st hva hvb hF1 hF2 hFW hown hus hi
          go_wp2_with fail
          clear p0 p1 p2 p3 p4 p5 q0 q1 q2 q3 q4 q5
          have zt := ZMidG.first F wr key
          generalize World.alloc _ _ = W0 at zt ⊢
          refine (HF1.out W0 zt.below).mono ?_
          rintro e w5 ⟨d0, d1, d2, d3, dA, dn, dc, eA, en, ec, rfl, hd, hb5⟩
          have zt5 := zt.call HFW.out hb5
          obtain ⟨o1, ho1⟩ : ∃ o, getT l1 key = o := ⟨_, rfl⟩
          rw [ho1] at hd Hnx ⊢
          have hz5 := hide (zt5.call HFW.out ((Below.refl _ _).alloc (Nat.le_refl _) (.cells #[.int .i64 d0, .int .i64 d1, .float .f64 d2, .string d3, .slice dA dn dc, .slice eA en ec] 26)))
          have hv5 := Bk.new w5 26 #[.int .i64 d0, .int .i64 d1, .float .f64 d2, .string d3, .slice dA dn dc, .slice eA en ec]
          have hd5 := fun rv h => (hd rv h).keeps (Keeps.alloc w5 (.cells #[.int .i64 d0, .int .i64 d1, .float .f64 d2, .string d3, .slice dA dn dc, .slice eA en ec] 26) fun b hb => by have := HFW.out b hb; have := zt5.below.size; omega)
          have Hd5 := hide hd5
          have Hv5 := hide hv5
          have hw5 : wr.heap.size < w5.heap.size := zt5.z.lt
          clear hd hd5 hv5 hb5 zt5 zt ho1
          go_upto_region 14 with fail
          have zt := hz5.out
          have hv := Hv5.out
          have hd := Hd5.out
          clear hz5 Hv5 Hd5
          generalize World.alloc _ _ = w6 at zt hv hd ⊢
          generalize w5.heap.size = g5 at *
          cases o1
          case' none =>
            have Zt := hide zt
            clear zt hv hd
            go_upto_region 16 with fail
            have zt := Zt.out
            clear Zt
            obtain ⟨o1, ho1⟩ : ∃ o, o = (none : Option T) := ⟨_, rfl⟩
            rw [← ho1] at Hnx
            obtain ⟨a1, n1, c1, hva⟩ : ∃ (a : Option Addr) (n c : Nat), Value.slice none 0 0 = .slice a n c := ⟨_, _, _, rfl⟩
            replace zt : ZMidG F wr key (.slice a1 n1 c1) (.slice none 0 0) o1 none w6 := by rw [← hva, ho1]; exact zt
            have h0 := hide (And.intro ho1 hva)
            clear ho1 hva
          case' some t1 =>
            have hd1 := hd t1.toRV rfl
            have Zt := hide (zt.setA HFW.out (Below.refl _ _) hd1)
            obtain ⟨p0, p1, p2, p3, p4, p5⟩ := Bx.of hv
            have z1 := zt.z.cell 1
            have z6 : ∀ i, w6.frozen? ⟨wr.heap.size, i, none⟩ = false := fun i => zt.z.free i
            have hzl : wr.heap.size < w6.heap.size := zt.z.lt
            simp at z1
            clear zt hv hd hd1
            go_upto_region 16 with fail
            have zt := Zt.out
            clear Zt p0 p1 p2 p3 p4 p5 z1 z6 hzl
            generalize World.alloc _ _ = w7 at zt ⊢
            obtain ⟨o1, ho1⟩ : ∃ o, o = some t1 := ⟨_, rfl⟩
            obtain ⟨a1, n1, c1, hva⟩ : ∃ (a : Option Addr) (n c : Nat), Value.slice (some ⟨w6.heap.size, 0, none⟩) 1 1 = .slice a n c := ⟨_, _, _, rfl⟩
            rw [← ho1] at Hnx
            replace zt : ZMidG F wr key (.slice a1 n1 c1) (.slice none 0 0) o1 none w7 := by rw [← hva, ho1]; exact zt
            have h0 := hide (And.intro ho1 hva)
            clear ho1 hva
          all_goals
            have hbz := (St2.out.1.call zt.below).b
            have hgz := hbz.lt
            obtain ⟨q0, q1, q2, q3, q4, q5⟩ := Bx.of hbz
            have Zt := hide zt
            clear zt hbz
            go_wp2_with fail
            have zt := Zt.out
            clear Zt q0 q1 q2 q3 q4 q5
            refine (HF2.out _ zt.below).mono ?_
            rintro e y5 ⟨g0, g1, g2, g3, gA, gn, gc, fA, fn, fc, rfl, hd, hb5⟩
            have zt5 := zt.call HFW.out hb5
            obtain ⟨o2, ho2⟩ : ∃ o, getT l2 key = o := ⟨_, rfl⟩
            rw [ho2] at hd Hnx ⊢
            have hz5 := hide (zt5.call HFW.out ((Below.refl _ _).alloc (Nat.le_refl _) (.cells #[.int .i64 g0, .int .i64 g1, .float .f64 g2, .string g3, .slice gA gn gc, .slice fA fn fc] 26)))
            have hv5 := Bk.new y5 26 #[.int .i64 g0, .int .i64 g1, .float .f64 g2, .string g3, .slice gA gn gc, .slice fA fn fc]
            have hd5 := fun rv h => (hd rv h).keeps (Keeps.alloc y5 (.cells #[.int .i64 g0, .int .i64 g1, .float .f64 g2, .string g3, .slice gA gn gc, .slice fA fn fc] 26) fun b hb => by have := HFW.out b hb; have := zt5.below.size; omega)
            have Hd5 := hide hd5
            have Hv5 := hide hv5
            have hw6 : wr.heap.size < y5.heap.size := zt5.z.lt
            clear hd hd5 hv5 hb5 zt5 zt ho2
            go_upto_region 17 with fail
            have zt := hz5.out
            have hv := Hv5.out
            have hd := Hd5.out
            clear hz5 Hv5 Hd5
            generalize World.alloc _ _ = y6 at zt hv hd ⊢
            generalize y5.heap.size = g6 at *
            cases o2
            case' none =>
              have Zt := hide zt
              clear zt hv hd
              go_upto_region 19 with fail
              have zt := Zt.out
              clear Zt
              obtain ⟨o2, ho2⟩ : ∃ o, o = (none : Option T) := ⟨_, rfl⟩
              rw [← ho2] at Hnx
              obtain ⟨a2, n2, c2, hvb⟩ : ∃ (a : Option Addr) (n c : Nat), Value.slice none 0 0 = .slice a n c := ⟨_, _, _, rfl⟩
              replace zt : ZMidG F wr key (.slice a1 n1 c1) (.slice a2 n2 c2) o1 o2 y6 := by rw [← hvb, ho2]; exact zt
              have h0' := hide (And.intro ho2 hvb)
              clear ho2 hvb
            case' some t2 =>
              have hd1 := hd t2.toRV rfl
              have Zt := hide (zt.setB HFW.out (Below.refl _ _) hd1)
              obtain ⟨p0, p1, p2, p3, p4, p5⟩ := Bx.of hv
              have z1 := zt.z.cell 2
              have z6 : ∀ i, y6.frozen? ⟨wr.heap.size, i, none⟩ = false := fun i => zt.z.free i
              have hzl : wr.heap.size < y6.heap.size := zt.z.lt
              simp at z1
              clear zt hv hd hd1
              go_upto_region 19 with fail
              have zt := Zt.out
              clear Zt p0 p1 p2 p3 p4 p5 z1 z6 hzl
              generalize World.alloc _ _ = y7 at zt ⊢
              obtain ⟨o2, ho2⟩ : ∃ o, o = some t2 := ⟨_, rfl⟩
              obtain ⟨a2, n2, c2, hvb⟩ : ∃ (a : Option Addr) (n c : Nat), Value.slice (some ⟨y6.heap.size, 0, none⟩) 1 1 = .slice a n c := ⟨_, _, _, rfl⟩
              rw [← ho2] at Hnx
              replace zt : ZMidG F wr key (.slice a1 n1 c1) (.slice a2 n2 c2) o1 o2 y7 := by rw [← hvb, ho2]; exact zt
              have h0' := hide (And.intro ho2 hvb)
              clear ho2 hvb
            all_goals
              have z0 := zt.z.cell 0
              have z1 := zt.z.cell 1
              have z2 := zt.z.cell 2
              simp at z0 z1 z2
              have hzl := zt.z.lt
              have hown5 := ownsRow_below St2.out.2 zt.below (Nat.le_refl _)
              have Hown5 := hide hown5
              have Zt := hide zt
              have h16 : (i + 1) * 64 ≤ 140737488355328 := by omega
              have h17 : i + 1 ≤ 8589934592 := by omega
              clear hown5 zt
              go_wp2_with (at_builtin; refine wpList_append_own_at _ rfl (.tmp 67) (.tmp 69) 53 rfl W1.heap.size 57 i57 _ 3 64 Try.underlying53 hi57 hz57 hs57 hb57 rfl (by omega) _ i us rfl (Hown5.out.alloc _) ⟨World.heap _ |>.size, 0, none⟩ 1 1 [.string key, .slice a1 n1 c1, .slice a2 n2 c2] rfl rfl (cells_at _ [.string key, .slice a1 n1 c1, .slice a2 n2 c2] _ _ rfl) ?c1 ?c2 ?c3 ?c4 ?_)
              case c1 => simp [Value.oneCell']
              case c2 => unfold maxLen; omega
              case c3 => exact h16
              case c4 => simp only [World.size_alloc]; omega
              intro out' w8 hown8 hg8 _ hat8
              have Hfin := hide ((Hnx _ w8 _ _ out' _).out Zt.out hown8 hg8 (by rw [World.size_alloc]; exact hat8))
              obtain ⟨oA, oc, rfl, _, _⟩ := own_form hown8
              clear Hnx hown8 hg8 hat8 Hown5 Zt z0 z1 z2
              go_wp2_with fail
              exact ⟨Hfin.out, by simp [intOf]; omega⟩
        · have hie : i = ks.length := by omega
          subst hie
          have hlt2 := hown.lt
          obtain ⟨_, _, e, h6, h7⟩ := own_form hown
          cases e
          rw [List.take_length] at hus
          have Hfin := hide (show GivesZip ks l1 l2 w (.returned (.slice A ks.length c)) wr from ⟨A, c, us, rfl, h6, h7, Row.of_own hown fun g hg => ⟨by have := (hlt2 g hg).1; omega, (hlt2 g hg).2⟩, hus.mono fun a cs h => h.mono fun b hb => ⟨hb.1, hb.2.1⟩, St.out.1.below.trans (hb.mono hwr)⟩)
          clear hus hown hb hlt2 h6 h7
          go_wp2
          go_ret
          exact Hfin.out

end Go.Proofs.Ytekaainjpddklaa
