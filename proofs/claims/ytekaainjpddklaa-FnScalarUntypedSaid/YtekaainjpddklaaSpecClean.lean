/-
  The reference's plain forms, as what they make of a value: WithField, plainList, plainMap, Clean.
-/
import Derived.Test.YtekaainjpddklaaWith
import Derived.Test.YtekaainjpddklaaRegion
import Derived.Deep.RegionWith
namespace Go.Proofs.Ytekaainjpddklaa
open Go.RowKit
attribute [local go_sem] run_store_float

/-- the plain form of a map of these fields -/
def fieldsRV (m : List (ByteArray × RV)) : RV := .mk 6 0 0 ⟨#[]⟩ (m.map Prod.fst) (m.map Prod.snd)

theorem zip_map_r {α β γ : Type _} (g : β → γ) : ∀ (a : List α) (b : List β), a.zip (b.map g) = (a.zip b).map fun p => (p.1, g p.2)
  | [], _ => by simp
  | _ :: _, [] => by simp
  | x :: a, y :: b => by simp [zip_map_r g a b]
theorem mapOf_map {α β : Type} (g : α → β) (keys : List ByteArray) (l : List α) : mapOf keys (l.map g) = (mapOf keys l).map fun p => (p.1, g p.2) := by
  have h : ∀ (z : List (ByteArray × α)) m, (z.map fun p => (p.1, g p.2)).foldl (fun m p => ins p.1 p.2 m) (m.map fun p => (p.1, g p.2)) = (z.foldl (fun m p => ins p.1 p.2 m) m).map fun p => (p.1, g p.2) := by
    intro z
    induction z with
    | nil => intro m; rfl
    | cons p r ih => intro m; simp only [List.map_cons, List.foldl_cons, ← ins_map, ih]
  have := h (keys.zip l) []
  unfold mapOf
  rw [← this, List.map_nil, zip_map_r]
theorem fieldsOf_toRV (kind n : Int) (f : Nat) (s : ByteArray) (keys : List ByteArray) (l : List RV) : (RV.mk kind n f s keys l).fieldsOf.toRV = fieldsRV (mapOf keys (l.map fun r => r.tree.toRV)) := by
  have e : (l.map fun r => r.tree.toRV) = (l.map RV.tree).map T.toRV := by simp
  rw [e, mapOf_map]
  simp only [RV.fieldsOf, T.toRV, fieldsRV, toRVM_eq, List.map_map]
  rfl

/-- a struct handed back, which stands for r; its memory is that of F and what is new -/
def GivesRV (F : Nat → Prop) (r : RV) (w : World) (e : Ending) (w' : World) : Prop :=
  ∃ cs : List Value, e = .returned (.agg cs.toArray) ∧ RVAt (fun b => F b ∨ Fr w.heap.size w' b) w' r cs ∧ Below w.heap.size w w'

theorem withField_calls (l : List (ByteArray × RV)) (hs : Sorted l) (F : Nat → Prop) (w : World) (hF : ∀ b, F b → b < w.heap.size) (kind n : Int) (f : Nat) (s k : ByteArray) (rv : RV) (mcs vcs : List Value) (h16 : (l.length + 1) * 16 ≤ R47) (h88 : (l.length + 1) * 88 ≤ R47) (hk : k.size ≤ R47)
    (hm : RVAt F w (.mk kind n f s (l.map Prod.fst) (l.map Prod.snd)) mcs) (hv : RVAt F w rv vcs) :
    Calls Try.prog 44 #[.agg mcs.toArray, .string k, .agg vcs.toArray] w (GivesRV F (fieldsRV (ins k rv l)) w) := by
  have hvs := hv
  have hv1 : ∀ u ∈ vcs, u.oneCell' = true := (RVs.one hv).ones
  generalize hkeys : l.map Prod.fst = keys at hm
  generalize hvals : l.map Prod.snd = vals at hm
  cases hm with
  | @mk _ _ _ _ _ _ KA LA kc lc xs _ _ _ _ h5 _ _ h8 h9 h10 h11 h12 h13 h14 =>
  subst hkeys; subst hvals
  have hxs : RVs F w (l.map Prod.snd) xs := ⟨h13.1, h14⟩
  simp only [List.length_map, List.map_map] at h8 h10 h12 h13 ⊢
  obtain ⟨c0, c1, c2, c3, c4, c5, rfl⟩ : ∃ c0 c1 c2 c3 c4 c5, vcs = [c0, c1, c2, c3, c4, c5] := by cases hv; exact ⟨_, _, _, _, _, _, rfl⟩
  refine (withField_walk l rv hs F w hF kind n f s k KA LA kc lc xs h16 h88 h8 h9 h10 h11 h12 h13 hxs.ones _ _ _ _ _ _ hv1).mono ?_
  rintro e w' ⟨kv, lv, ob, rfl, hb, hob, hK, hL⟩
  obtain ⟨A, c, rfl, hc1, hc2⟩ := own_form hK
  obtain ⟨A', c', rfl, hc1', hc2'⟩ := own_form hL
  have hlen := ins_length k rv l
  have keep : Keeps F w w' := Keeps.below hb hF
  have hxs' : RVs (fun b => F b ∨ Fr w.heap.size w' b) w' ((ins k rv l).map Prod.snd) (xs.take (cnt k l * 6) ++ [c0, c1, c2, c3, c4, c5] ++ xs.drop ((if found k l then cnt k l + 1 else cnt k l) * 6)) := by
    have e1 : (ins k rv l).map Prod.snd = (l.map Prod.snd).take (cnt k l) ++ [rv] ++ (l.map Prod.snd).drop (if found k l then cnt k l + 1 else cnt k l) := by
      rw [ins_eq]
      simp only [found, decide_eq_true_eq, List.map_append, List.map_take, List.map_cons, List.map_drop, List.append_assoc, List.cons_append, List.nil_append]
    rw [e1]
    exact (((hxs.take _ (by simpa using cnt_le k l)).append (RVs.one hvs)).append (hxs.drop _)).keeps keep |>.mono fun b hb => .inl hb
  have b0 : okInt 6 := ⟨by decide, by decide⟩
  have b1 : okInt 0 := ⟨by decide, by decide⟩
  have hkk : ∀ x ∈ (ins k rv l).map Prod.fst, x.size ≤ R47 := by
    intro x hx
    rcases (keys_ins hs x).1 hx with rfl | hx
    · exact hk
    · exact h5 x hx
  have hmk := RVAt.mk (F := fun b => F b ∨ Fr w.heap.size w' b) (w := w') (kind := 6) (n := 0) (f := 0) (s := ⟨#[]⟩) (keys := (ins k rv l).map Prod.fst) (l := (ins k rv l).map Prod.snd) (KA := A) (LA := A') (kc := c) (lc := c') b0 b1 (by unfold B64; omega) (by decide) hkk
    (by rw [List.length_map]; exact Nat.le_trans (Nat.mul_le_mul_right _ hlen) h16) (by rw [List.length_map]; exact Nat.le_trans (Nat.mul_le_mul_right _ hlen) h88) (by rw [List.length_map]; exact hc1) hc2 (by rw [List.length_map]; exact hc1') hc2'
    (by rw [List.length_map, List.map_map]; exact Row.of_own hK fun g hg => .inr ⟨by have := (hK.lt g hg).1; omega, (hK.lt g hg).2⟩)
    (by rw [List.length_map]; exact Row.of_own hL fun g hg => .inr ⟨by have := (hL.lt g hg).1; omega, (hL.lt g hg).2⟩) hxs'.2
  simp only [List.length_map] at hmk
  exact ⟨_, rfl, hmk, hb⟩

theorem RVAt.fields {F : Nat → Prop} {w : World} {m : List (ByteArray × RV)} {cs : List Value} (h : RVAt F w (fieldsRV m) cs) :
    ∃ KA kc LA lc, cs = [.int .i64 6, .int .i64 0, .float .f64 0, .string ⟨#[]⟩, .slice KA m.length kc, .slice LA m.length lc] := by
  unfold fieldsRV at h
  generalize hk : m.map Prod.fst = keys at h
  generalize hv : m.map Prod.snd = vals at h
  cases h with
  | @mk _ _ _ _ _ _ KA LA kc lc =>
    subst hk; subst hv
    simp only [List.length_map]
    exact ⟨KA, kc, LA, lc, rfl⟩

theorem RVAt.flat {F : Nat → Prop} {w : World} (kind n : Int) (f : Nat) (s : ByteArray) (h1 : okInt kind) (h2 : okInt n) (h3 : f < B64) (h4 : s.size ≤ R47) :
    RVAt F w (.mk kind n f s [] []) [.int .i64 kind, .int .i64 n, .float .f64 f, .string s, .slice none 0 0, .slice none 0 0] :=
  RVAt.mk (keys := []) (l := []) (KA := none) (LA := none) (kc := 0) (lc := 0) (xs := []) h1 h2 h3 h4 (by simp) (by simp [R47]) (by simp [R47]) (by simp) (by simp) (by simp) (by simp) Row.nil_ Row.nil_ (by simp)
theorem RVAt.empty (F : Nat → Prop) (w : World) : RVAt F w (fieldsRV []) [.int .i64 6, .int .i64 0, .float .f64 0, .string ⟨#[]⟩, .slice none 0 0, .slice none 0 0] :=
  RVAt.flat 6 0 0 ⟨#[]⟩ ⟨by decide, by decide⟩ ⟨by decide, by decide⟩ (by decide) (by decide)

def CleanOK (rv : RV) : Prop := ∀ (w : World) (cs : List Value), RVAt (Old w) w rv cs → Calls Try.prog 17 #[.agg cs.toArray] w (GivesRV (fun _ => False) rv.tree.toRV w)
def AllClean (l : List RV) : Prop := ∀ r ∈ l, CleanOK r
def PlainMapOK (rv : RV) : Prop := ∀ (w : World) (cs : List Value), RVAt (Old w) w rv cs → Calls Try.prog 61 #[.agg cs.toArray] w (GivesRV (fun _ => False) rv.fieldsOf.toRV w)

/-- the plain form of the first k fields -/
def mapC (keys : List ByteArray) (l : List RV) (k : Nat) : List (ByteArray × RV) := mapOf (keys.take k) ((l.map fun r => r.tree.toRV).take k)

/-- what is known at the head of a round: the blocks of the argument, of the result and of the map so far -/
structure SMap (w : World) (mcs : Array Value) (keys : List ByteArray) (l : List RV) (k : Nat) (cs : List Value) (wr : World) : Prop where
  below : Below w.heap.size w wr
  M : Bk wr w.heap.size 26 mcs
  R : Bk wr (w.heap.size + 1) 26 #[.int .i64 0, .int .i64 0, .float .f64 0, .string ⟨#[]⟩, .slice none 0 0, .slice none 0 0]
  O : Bk wr (w.heap.size + 2) 26 cs.toArray
  val : RVAt (fun b => w.heap.size + 3 ≤ b ∧ b < wr.heap.size) wr (fieldsRV (mapC keys l k)) cs
def SMapInv (w : World) (mcs : Array Value) (keys : List ByteArray) (l : List RV) (ctr : Value) (wr : World) : Prop :=
  ∃ (k : Nat) (cs : List Value), k ≤ keys.length ∧ k ≤ l.length ∧ ctr = .int .i64 k ∧ SMap w mcs keys l k cs wr

/-- six cells stored over six -/
def set6 (w : World) (g : Nat) (c0 c1 c2 c3 c4 c5 : Value) : World :=
  (((((w.setCell ⟨g, 0, none⟩ c0).setCell ⟨g, 1, none⟩ c1).setCell ⟨g, 2, none⟩ c2).setCell ⟨g, 3, none⟩ c3).setCell ⟨g, 4, none⟩ c4).setCell ⟨g, 5, none⟩ c5
theorem set6_same {w : World} {g : Nat} {t : TypeId} {a0 a1 a2 a3 a4 a5 : Value} (c0 c1 c2 c3 c4 c5 : Value) (h : Bk w g t #[a0, a1, a2, a3, a4, a5]) : Bk (set6 w g c0 c1 c2 c3 c4 c5) g t #[c0, c1, c2, c3, c4, c5] := by
  simpa [set6] using (((((h.set_ 0 c0).set_ 1 c1).set_ 2 c2).set_ 3 c3).set_ 4 c4).set_ 5 c5
theorem set6_heap (w : World) (g : Nat) (c0 c1 c2 c3 c4 c5 : Value) (b : Nat) (h : b ≠ g) : (set6 w g c0 c1 c2 c3 c4 c5).heap[b]? = w.heap[b]? := by
  unfold set6
  rw [Below.heap_setCell _ _ _ _ h, Below.heap_setCell _ _ _ _ h, Below.heap_setCell _ _ _ _ h, Below.heap_setCell _ _ _ _ h, Below.heap_setCell _ _ _ _ h, Below.heap_setCell _ _ _ _ h]
theorem set6_size (w : World) (g : Nat) (c0 c1 c2 c3 c4 c5 : Value) : (set6 w g c0 c1 c2 c3 c4 c5).heap.size = w.heap.size := by simp [set6]
theorem set6_below {a w : World} {B g : Nat} (c0 c1 c2 c3 c4 c5 : Value) (h : Below B a w) (hB : B ≤ g) : Below B a (set6 w g c0 c1 c2 c3 c4 c5) :=
  ((((((h.setCell hB c0).setCell hB c1).setCell hB c2).setCell hB c3).setCell hB c4).setCell hB c5)

theorem below_of_drew {B : Nat} {w w' : World} (h : Below B w.drew w') : Below B w w' := ⟨h.os, h.tape, h.output, h.size, h.block⟩

theorem smap_mid {w wr w1 : World} {mcs : Array Value} {keys : List ByteArray} {l : List RV} {k : Nat} {cs ccs : List Value} {rr : RV} (st : SMap w mcs keys l k cs wr) (hb1 : Below wr.heap.size wr.drew w1) (hcc : RVAt (fun b => False ∨ Fr wr.heap.size w1 b) w1 rr ccs) :
    RVAt (fun b => w.heap.size + 3 ≤ b ∧ b < w1.heap.size) w1 (fieldsRV (mapC keys l k)) cs ∧ RVAt (fun b => w.heap.size + 3 ≤ b ∧ b < w1.heap.size) w1 rr ccs := by
  have s1 := hb1.size
  have s2 := st.O.lt
  have s1' : wr.heap.size ≤ w1.heap.size := s1
  refine ⟨(st.val.keeps (Keeps.below (below_of_drew hb1) fun b hb => hb.2)).mono fun b hb => ⟨hb.1, by have := hb.2; omega⟩, hcc.mono fun b hb => ?_⟩
  rcases hb with hb | hb
  · exact hb.elim
  · exact ⟨by have := hb.1; omega, hb.2⟩

theorem smap_step {w wr w1 w2 : World} {mcs : Array Value} {keys : List ByteArray} {l : List RV} {k : Nat} {cs rcs : List Value} {r : RV} {c0 c1 c2 c3 c4 c5 a0 a1 a2 a3 a4 a5 : Value} (st : SMap w mcs keys l k cs wr) (hb1 : Below wr.heap.size wr.drew w1) (hk : k < keys.length) (hl : k < l.length) (hr : l[k]? = some r)
    (hb2 : Below w1.heap.size w1 w2) (hv : RVAt (fun b => (w.heap.size + 3 ≤ b ∧ b < w1.heap.size) ∨ Fr w1.heap.size w2 b) w2 (fieldsRV (ins keys[k] r.tree.toRV (mapC keys l k))) rcs) (hcs : cs = [a0, a1, a2, a3, a4, a5]) (hrcs : rcs = [c0, c1, c2, c3, c4, c5]) :
    SMap w mcs keys l (k + 1) rcs (set6 w2 (w.heap.size + 2) c0 c1 c2 c3 c4 c5) := by
  subst hcs; subst hrcs
  have s1 : wr.heap.size ≤ w1.heap.size := hb1.size
  have s2 := st.O.lt
  have s3 := hb2.size
  have hb12 : Below wr.heap.size wr w2 := (below_of_drew hb1).trans (hb2.mono s1)
  have s4 := st.below.size
  have hr' : l[k] = r := by rw [List.getElem?_eq_getElem hl] at hr; exact Option.some.inj hr
  have e : mapC keys l (k + 1) = ins keys[k] r.tree.toRV (mapC keys l k) := by
    unfold mapC
    rw [mapOf_take_succ _ _ _ hk (by simpa using hl)]
    simp [hr']
  refine ⟨set6_below _ _ _ _ _ _ (st.below.trans (hb12.mono s4)) (by omega), ?_, ?_, set6_same _ _ _ _ _ _ (st.O.below hb12 s2), ?_⟩
  · exact (set6_heap _ _ _ _ _ _ _ _ _ (by omega)).trans (st.M.below hb12 st.M.lt)
  · exact (set6_heap _ _ _ _ _ _ _ _ _ (by omega)).trans (st.R.below hb12 st.R.lt)
  · rw [e]
    refine (hv.keeps (w' := set6 w2 (w.heap.size + 2) c0 c1 c2 c3 c4 c5) fun b hb => set6_heap _ _ _ _ _ _ _ _ _ ?_).mono fun b hb => ?_
    · rcases hb with hb | hb
      · have := hb.1; omega
      · have := hb.1; omega
    · rw [set6_size]
      rcases hb with hb | hb
      · exact ⟨hb.1, by have := hb.2; omega⟩
      · exact ⟨by have := hb.1; omega, hb.2⟩

theorem RVAt.six {F : Nat → Prop} {w : World} {r : RV} {cs : List Value} (h : RVAt F w r cs) : ∃ c0 c1 c2 c3 c4 c5, cs = [c0, c1, c2, c3, c4, c5] := by
  cases h; exact ⟨_, _, _, _, _, _, rfl⟩

theorem smap_facts {w wr : World} {mcs : Array Value} {keys : List ByteArray} {l : List RV} {k : Nat} {a0 a1 a2 a3 a4 a5 : Value} (st : SMap w mcs keys l k [a0, a1, a2, a3, a4, a5] wr) :
    wr.cell? ⟨w.heap.size + 1 + 1, 0, none⟩ = some a0 ∧ wr.cell? ⟨w.heap.size + 1 + 1, 1, none⟩ = some a1 ∧ wr.cell? ⟨w.heap.size + 1 + 1, 2, none⟩ = some a2 ∧ wr.cell? ⟨w.heap.size + 1 + 1, 3, none⟩ = some a3 ∧ wr.cell? ⟨w.heap.size + 1 + 1, 4, none⟩ = some a4 ∧ wr.cell? ⟨w.heap.size + 1 + 1, 5, none⟩ = some a5 ∧
      (∀ i, wr.frozen? ⟨w.heap.size + 1, i, none⟩ = false) ∧
      wr.cell? ⟨w.heap.size + 1, 0, none⟩ = some (.int .i64 0) ∧ wr.cell? ⟨w.heap.size + 1, 1, none⟩ = some (.int .i64 0) ∧ wr.cell? ⟨w.heap.size + 1, 2, none⟩ = some (.float .f64 0) ∧ wr.cell? ⟨w.heap.size + 1, 3, none⟩ = some (.string ⟨#[]⟩) ∧ wr.cell? ⟨w.heap.size + 1, 4, none⟩ = some (.slice none 0 0) ∧ wr.cell? ⟨w.heap.size + 1, 5, none⟩ = some (.slice none 0 0) :=
  ⟨st.O.cell 0, st.O.cell 1, st.O.cell 2, st.O.cell 3, st.O.cell 4, st.O.cell 5, fun i => st.R.free i, st.R.cell 0, st.R.cell 1, st.R.cell 2, st.R.cell 3, st.R.cell 4, st.R.cell 5⟩

theorem smap_fin {w wr : World} {mcs : Array Value} {keys : List ByteArray} {l : List RV} {k : Nat} {a0 a1 a2 a3 a4 a5 : Value} {m : List (ByteArray × RV)} (st : SMap w mcs keys l k [a0, a1, a2, a3, a4, a5] wr) (hm : mapC keys l k = m) :
    Bk (set6 wr (w.heap.size + 1) a0 a1 a2 a3 a4 a5) (w.heap.size + 1) 26 #[a0, a1, a2, a3, a4, a5] ∧ Below w.heap.size w (set6 wr (w.heap.size + 1) a0 a1 a2 a3 a4 a5) ∧
    RVAt (fun b => False ∨ Fr w.heap.size (set6 wr (w.heap.size + 1) a0 a1 a2 a3 a4 a5) b) (set6 wr (w.heap.size + 1) a0 a1 a2 a3 a4 a5) (fieldsRV m) [a0, a1, a2, a3, a4, a5] := by
  subst hm
  refine ⟨set6_same _ _ _ _ _ _ st.R, set6_below _ _ _ _ _ _ st.below (by omega), (st.val.keeps fun b hb => set6_heap _ _ _ _ _ _ _ _ _ (by have := hb.1; omega)).mono fun b hb => .inr ⟨by have := hb.1; omega, by rw [set6_size]; exact hb.2⟩⟩

theorem smap_start (w : World) (mcs : Array Value) (keys : List ByteArray) (l : List RV) : SMapInv w mcs keys l (.int .i64 0)
    (((w.alloc (.cells mcs 26)).alloc (.cells #[.int .i64 0, .int .i64 0, .float .f64 0, .string ⟨#[]⟩, .slice none 0 0, .slice none 0 0] 26)).alloc (.cells #[.int .i64 6, .int .i64 0, .float .f64 0, .string ⟨#[]⟩, .slice none 0 0, .slice none 0 0] 26)) := by
  refine ⟨0, [.int .i64 6, .int .i64 0, .float .f64 0, .string ⟨#[]⟩, .slice none 0 0, .slice none 0 0], Nat.zero_le _, Nat.zero_le _, rfl, ((((Below.refl _ _).alloc (Nat.le_refl _) _).alloc (by simp) _).alloc (by simp; omega) _), ((Bk.new w _ _).alloc _).alloc _, ?_, ?_, ?_⟩
  · have := (Bk.new (w.alloc (.cells mcs 26)) 26 #[.int .i64 0, .int .i64 0, .float .f64 0, .string ⟨#[]⟩, .slice none 0 0, .slice none 0 0]).alloc (.cells #[.int .i64 6, .int .i64 0, .float .f64 0, .string ⟨#[]⟩, .slice none 0 0, .slice none 0 0] 26)
    simpa using this
  · have := (Bk.new ((w.alloc (.cells mcs 26)).alloc (.cells #[.int .i64 0, .int .i64 0, .float .f64 0, .string ⟨#[]⟩, .slice none 0 0, .slice none 0 0] 26)) 26 [.int .i64 6, .int .i64 0, .float .f64 0, .string ⟨#[]⟩, .slice none 0 0, .slice none 0 0].toArray)
    simpa using this
  · have e : mapC keys l 0 = [] := by simp [mapC, mapOf]
    rw [e]
    exact RVAt.empty _ _

/-- the cells that a round of plainMap loads -/
structure Round (g kb ko b o k nk kc nl lc : Nat) (key : ByteArray) (c0 c1 c2 c3 c4 c5 d0 d1 d2 d3 d4 d5 : Value) (W : World) : Prop where
  m4 : W.cell? ⟨g, 4, none⟩ = some (.slice (some ⟨kb, ko, none⟩) nk kc)
  m5 : W.cell? ⟨g, 5, none⟩ = some (.slice (some ⟨b, o, none⟩) nl lc)
  ky : W.cell? ⟨kb, ko + k, none⟩ = some (.string key)
  e0 : W.cell? ⟨b, o + k * 6, none⟩ = some c0
  e1 : W.cell? ⟨b, o + k * 6 + 1, none⟩ = some c1
  e2 : W.cell? ⟨b, o + k * 6 + 2, none⟩ = some c2
  e3 : W.cell? ⟨b, o + k * 6 + 3, none⟩ = some c3
  e4 : W.cell? ⟨b, o + k * 6 + 4, none⟩ = some c4
  e5 : W.cell? ⟨b, o + k * 6 + 5, none⟩ = some c5
  o0 : W.cell? ⟨g + 1 + 1, 0, none⟩ = some d0
  o1 : W.cell? ⟨g + 1 + 1, 1, none⟩ = some d1
  o2 : W.cell? ⟨g + 1 + 1, 2, none⟩ = some d2
  o3 : W.cell? ⟨g + 1 + 1, 3, none⟩ = some d3
  o4 : W.cell? ⟨g + 1 + 1, 4, none⟩ = some d4
  o5 : W.cell? ⟨g + 1 + 1, 5, none⟩ = some d5

theorem Round.below {g kb ko b o k nk kc nl lc B : Nat} {key : ByteArray} {c0 c1 c2 c3 c4 c5 d0 d1 d2 d3 d4 d5 : Value} {W W' : World} (h : Round g kb ko b o k nk kc nl lc key c0 c1 c2 c3 c4 c5 d0 d1 d2 d3 d4 d5 W) (hB : Below B W W') (hg : g + 2 < B) (hk : kb < B) (hb : b < B) :
    Round g kb ko b o k nk kc nl lc key c0 c1 c2 c3 c4 c5 d0 d1 d2 d3 d4 d5 W' := by
  have e := (bcell hB).1
  exact ⟨(e _ _ (by omega)).trans h.m4, (e _ _ (by omega)).trans h.m5, (e _ _ hk).trans h.ky, (e _ _ hb).trans h.e0, (e _ _ hb).trans h.e1, (e _ _ hb).trans h.e2, (e _ _ hb).trans h.e3, (e _ _ hb).trans h.e4, (e _ _ hb).trans h.e5,
    (e _ _ (by omega)).trans h.o0, (e _ _ (by omega)).trans h.o1, (e _ _ (by omega)).trans h.o2, (e _ _ (by omega)).trans h.o3, (e _ _ (by omega)).trans h.o4, (e _ _ (by omega)).trans h.o5⟩

set_option maxRecDepth 100000 in
set_option maxHeartbeats 400000 in
theorem specPlainMap_ok (kind n : Int) (f : Nat) (s : ByteArray) (keys : List ByteArray) (l : List RV) (ih : AllClean l) : PlainMapOK (RV.mk kind n f s keys l) := by
  intro w cs hrv
  cases hrv with
  | @mk _ _ _ _ _ _ KA LA kc lc xs h1 h2 h3 h4 h5 h6 h7 h8 h9 h10 h11 hKrow hLrow hx =>
  have hkl : keys.length ≤ 8796093022208 := by unfold R47 at h6; omega
  have hll : l.length ≤ 8796093022208 := by unfold R47 at h7; omega
  have H6 := hide h6
  have H7 := hide h7
  have H5 := hide h5
  have HK := hide hKrow
  have HL := hide hLrow
  have HX := hide hx
  clear h1 h2 h3 h4 h5 h6 h7 h8 h9 h10 h11 hKrow hLrow hx
  go_enter Try.func61, Try.ntmps61
  go_wp2
  go_loopw [4] (fun ctr wr => SMapInv w #[.int .i64 kind, .int .i64 n, .float .f64 f, .string s, .slice KA keys.length kc, .slice LA l.length lc] keys l ctr wr) (fun ctr _ => keys.length - (intOf ctr).toNat)
  case atStart => exact smap_start w _ keys l
  case round =>
    obtain ⟨k, cs, hk, hl, rfl, st⟩ := hrel
    have m4 := st.M.cell 4
    have m5 := st.M.cell 5
    simp at m4 m5
    by_cases hlt : k < keys.length
    · obtain ⟨kb, ko, rfl, hkF, hkc⟩ := row1_at (u := Value.string keys[k]) HK.out hlt (by simp [hlt])
      rw [← (bcell st.below).1 _ _ hkF] at hkc
      by_cases hl' : k < l.length
      · have hgk : l[k]? = some l[k] := List.getElem?_eq_getElem hl'
        have hrk := (HX.out k _ hgk)
        have hih := ih l[k] (List.getElem_mem hl')
        generalize l[k] = r at hgk hrk hih
        have Hgk := hide hgk
        clear hgk
        have hkr := hrk
        generalize hcs : (xs.drop (k * 6)).take 6 = ecs at hrk hkr
        cases hrk with
        | @mk kind' n' f' s' keys' l' KA' LA' kc' lc' xs' h1 h2 h3 h4 h5 h6 h7 h8 h9 h10 h11 h12 h13 h14 =>
          clear h1 h2 h3 h4 h5 h6 h7 h8 h9 h10 h11 h12 h13 h14
          obtain ⟨b, o, rfl, hF, k0, k1, k2, k3, k4, k5⟩ := row6_at HL.out hl' hcs
          have Hcs := hide hcs
          clear hcs
          rw [← (bcell st.below).1 _ _ hF] at k0 k1 k2 k3 k4 k5
          have hkr' : ∀ W : World, (∀ b, b < w.heap.size → W.heap[b]? = wr.heap[b]?) → wr.heap.size ≤ W.heap.size → RVAt (Old W) W (RV.mk kind' n' f' s' keys' l') _ := fun W h1 h2 =>
            (hkr.keeps (w' := W) (fun b hb => (h1 b hb).trans (st.below.block b hb))).mono (fun b hb => by have := st.below.size; simp only [Old] at hb ⊢; omega)
          have Hkr := hide hkr'
          clear hkr hkr'
          have hBl : w.heap.size < wr.heap.size := st.M.lt
          have hkl' : kb < wr.heap.size := Nat.lt_of_lt_of_le hkF st.below.size
          have hbl' : b < wr.heap.size := Nat.lt_of_lt_of_le hF st.below.size
          have hki0 : (0 : Int) ≤ (k : Int) := Int.natCast_nonneg _
          have hki1 : (k : Int) < (keys.length : Int) := by omega
          have hki2 : (k : Int) < (l.length : Int) := by omega
          obtain ⟨oK, okc, oL, olc, rfl⟩ := st.val.fields
          have hO : ∀ W : World, Below wr.heap.size wr.drew W → W.cell? ⟨w.heap.size + 1 + 1, 0, none⟩ = some (.int .i64 6) ∧ W.cell? ⟨w.heap.size + 1 + 1, 1, none⟩ = some (.int .i64 0) ∧ W.cell? ⟨w.heap.size + 1 + 1, 2, none⟩ = some (.float .f64 0) ∧ W.cell? ⟨w.heap.size + 1 + 1, 3, none⟩ = some (.string ⟨#[]⟩) ∧
              W.cell? ⟨w.heap.size + 1 + 1, 4, none⟩ = some (.slice oK (mapC keys l k).length okc) ∧ W.cell? ⟨w.heap.size + 1 + 1, 5, none⟩ = some (.slice oL (mapC keys l k).length olc) ∧ ∀ i, W.frozen? ⟨w.heap.size + 1 + 1, i, none⟩ = false := fun W hW => by
            have O := st.O.below (below_of_drew hW) st.O.lt
            exact ⟨O.cell 0, O.cell 1, O.cell 2, O.cell 3, O.cell 4, O.cell 5, fun i => O.free i⟩
          obtain ⟨q0, q1, q2, q3, q4, q5, q6⟩ := hO wr.drew (Below.refl _ _)
          have HO := hide hO
          have Hst := hide st
          clear st hO
          go_wp2_with fail
          have hS0 : Round w.heap.size kb ko b o k keys.length kc l.length lc keys[k] (.int .i64 kind') (.int .i64 n') (.float .f64 f') (.string s') (.slice KA' keys'.length kc') (.slice LA' l'.length lc') (.int .i64 6) (.int .i64 0) (.float .f64 0) (.string ⟨#[]⟩) (.slice oK (mapC keys l k).length okc) (.slice oL (mapC keys l k).length olc) wr.drew := ⟨m4, m5, hkc, k0, k1, k2, k3, k4, k5, q0, q1, q2, q3, q4, q5⟩
          generalize hS : Round w.heap.size kb ko b o k keys.length kc l.length lc keys[k] (.int .i64 kind') (.int .i64 n') (.float .f64 f') (.string s') (.slice KA' keys'.length kc') (.slice LA' l'.length lc') (.int .i64 6) (.int .i64 0) (.float .f64 0) (.string ⟨#[]⟩) (.slice oK (mapC keys l k).length okc) (.slice oL (mapC keys l k).length olc) = S at hS0
          refine wp_region_head 12 S (by rfl) (by kernel_rfl) ?_
          refine HT.take 0 (v := ?_) rfl (by kernel_rfl) (fun _ _ _ h => h) (Or.inl ⟨by rfl, ?_⟩) (by assumption) ?_
          rotate_left
          · intro W hSw; rw [← hS] at hSw; obtain ⟨s1, s2, s3, s4, s5, s6, s7, s8, s9, s10, s11, s12, s13, s14, s15⟩ := hSw; go_simp; with_reducible rfl
          simp only [Act.put, List.setIfInBounds_toArray, List.set_cons_zero, List.set_cons_succ]
          refine HT.take 1 (v := ?_) rfl (by kernel_rfl) (fun _ _ _ h => h) (Or.inl ⟨by rfl, ?_⟩) (by assumption) ?_
          rotate_left
          · intro W hSw; rw [← hS] at hSw; obtain ⟨s1, s2, s3, s4, s5, s6, s7, s8, s9, s10, s11, s12, s13, s14, s15⟩ := hSw; go_simp; with_reducible rfl
          simp only [Act.put, List.setIfInBounds_toArray, List.set_cons_zero, List.set_cons_succ]
          refine HT.take 2 (v := ?_) rfl (by kernel_rfl) (fun _ _ _ h => h) (Or.inl ⟨by rfl, ?_⟩) (by assumption) ?_
          rotate_left
          · intro W hSw; rw [← hS] at hSw; obtain ⟨s1, s2, s3, s4, s5, s6, s7, s8, s9, s10, s11, s12, s13, s14, s15⟩ := hSw; go_simp; with_reducible rfl
          simp only [Act.put, List.setIfInBounds_toArray, List.set_cons_zero, List.set_cons_succ]
          refine HT.take 3 (v := ?_) rfl (by kernel_rfl) (fun _ _ _ h => h) (Or.inl ⟨by rfl, ?_⟩) (by assumption) ?_
          rotate_left
          · intro W hSw; rw [← hS] at hSw; obtain ⟨s1, s2, s3, s4, s5, s6, s7, s8, s9, s10, s11, s12, s13, s14, s15⟩ := hSw; go_simp; with_reducible rfl
          simp only [Act.put, List.setIfInBounds_toArray, List.set_cons_zero, List.set_cons_succ]
          refine HT.take 4 (v := ?_) rfl (by kernel_rfl) (fun _ _ _ h => h) (Or.inl ⟨by rfl, ?_⟩) (by assumption) ?_
          rotate_left
          · intro W hSw; rw [← hS] at hSw; obtain ⟨s1, s2, s3, s4, s5, s6, s7, s8, s9, s10, s11, s12, s13, s14, s15⟩ := hSw; go_simp; with_reducible rfl
          simp only [Act.put, List.setIfInBounds_toArray, List.set_cons_zero, List.set_cons_succ]
          refine HT.take 5 (v := ?_) rfl (by kernel_rfl) (fun _ _ _ h => h) (Or.inl ⟨by rfl, ?_⟩) (by assumption) ?_
          rotate_left
          · intro W hSw; rw [← hS] at hSw; obtain ⟨s1, s2, s3, s4, s5, s6, s7, s8, s9, s10, s11, s12, s13, s14, s15⟩ := hSw; go_simp; with_reducible rfl
          simp only [Act.put, List.setIfInBounds_toArray, List.set_cons_zero, List.set_cons_succ]
          refine HT.take 6 (v := ?_) rfl (by kernel_rfl) (fun _ _ _ h => h) (Or.inl ⟨by rfl, ?_⟩) (by assumption) ?_
          rotate_left
          · intro W hSw; rw [← hS] at hSw; obtain ⟨s1, s2, s3, s4, s5, s6, s7, s8, s9, s10, s11, s12, s13, s14, s15⟩ := hSw; go_simp; with_reducible rfl
          simp only [Act.put, List.setIfInBounds_toArray, List.set_cons_zero, List.set_cons_succ]
          refine HT.take 7 (v := ?_) rfl (by kernel_rfl) (fun _ _ _ h => h) (Or.inl ⟨by rfl, ?_⟩) (by assumption) ?_
          rotate_left
          · intro W hSw; rw [← hS] at hSw; obtain ⟨s1, s2, s3, s4, s5, s6, s7, s8, s9, s10, s11, s12, s13, s14, s15⟩ := hSw; go_simp; with_reducible rfl
          simp only [Act.put, List.setIfInBounds_toArray, List.set_cons_zero, List.set_cons_succ]
          refine HT.take 8 (v := ?_) rfl (by kernel_rfl) (fun _ _ _ h => h) (Or.inl ⟨by rfl, ?_⟩) (by assumption) ?_
          rotate_left
          · intro W hSw; rw [← hS] at hSw; obtain ⟨s1, s2, s3, s4, s5, s6, s7, s8, s9, s10, s11, s12, s13, s14, s15⟩ := hSw; go_simp; with_reducible rfl
          simp only [Act.put, List.setIfInBounds_toArray, List.set_cons_zero, List.set_cons_succ]
          refine HT.take 9 (v := ?_) rfl (by kernel_rfl) (fun _ _ _ h => h) (Or.inl ⟨by rfl, ?_⟩) (by assumption) ?_
          rotate_left
          · intro W hSw; rw [← hS] at hSw; obtain ⟨s1, s2, s3, s4, s5, s6, s7, s8, s9, s10, s11, s12, s13, s14, s15⟩ := hSw; go_simp; with_reducible rfl
          simp only [Act.put, List.setIfInBounds_toArray, List.set_cons_zero, List.set_cons_succ]
          refine HT.take 10 (v := ?_) rfl (by kernel_rfl) (fun _ _ _ h => h) (Or.inl ⟨by rfl, ?_⟩) (by assumption) ?_
          rotate_left
          · intro W hSw; rw [← hS] at hSw; obtain ⟨s1, s2, s3, s4, s5, s6, s7, s8, s9, s10, s11, s12, s13, s14, s15⟩ := hSw; go_simp; with_reducible rfl
          simp only [Act.put, List.setIfInBounds_toArray, List.set_cons_zero, List.set_cons_succ]
          refine HT.one 11 rfl (by kernel_rfl) (by rfl) (fun K hK => ?_)
          go_simp
          refine (hih wr.drew _ (Hkr.out wr.drew (fun b hb => rfl) (Nat.le_refl _))).mono ?_
          rintro e w1 ⟨ccs, rfl, hcc, hb1⟩
          obtain ⟨c0, c1, c2, c3, c4, c5, rfl⟩ := hcc.six
          go_simp
          refine hK.out _ _ (by rw [← hS] at hS0 ⊢; exact Round.below (B := wr.heap.size) hS0 hb1 Hst.out.O.lt hkl' hbl') ?_
          refine HT.done (by kernel_rfl) ?_
          simp only [List.drop_succ_cons, List.drop_zero]
          obtain ⟨v1, v2⟩ := smap_mid Hst.out hb1 hcc
          clear hS0 hS
          have hml : (mapC keys l k).length + 1 ≤ keys.length := by have := mapOf_take_length keys (l.map fun r => r.tree.toRV) k; unfold mapC; omega
          have hml2 : (mapC keys l k).length + 1 ≤ l.length := by have := mapOf_take_length keys (l.map fun r => r.tree.toRV) k; unfold mapC; omega
          have hwf := withField_calls (mapC keys l k) (mapOf_sorted _ _) _ w1 (fun b hb => hb.2) 6 0 0 ⟨#[]⟩ keys[k] _ _ _ (Nat.le_trans (Nat.mul_le_mul_right _ hml) H6.out) (Nat.le_trans (Nat.mul_le_mul_right _ hml2) H7.out) (H5.out _ (List.getElem_mem hlt)) v1 v2
          have Hwf := hide hwf
          clear hwf hml hml2 v1 v2
          have hO2 : ∀ W : World, Below w1.heap.size w1 W → W.cell? ⟨w.heap.size + 1 + 1, 0, none⟩ = some (.int .i64 6) ∧ W.cell? ⟨w.heap.size + 1 + 1, 1, none⟩ = some (.int .i64 0) ∧ W.cell? ⟨w.heap.size + 1 + 1, 2, none⟩ = some (.float .f64 0) ∧ W.cell? ⟨w.heap.size + 1 + 1, 3, none⟩ = some (.string ⟨#[]⟩) ∧
              W.cell? ⟨w.heap.size + 1 + 1, 4, none⟩ = some (.slice oK (mapC keys l k).length okc) ∧ W.cell? ⟨w.heap.size + 1 + 1, 5, none⟩ = some (.slice oL (mapC keys l k).length olc) ∧ ∀ i, W.frozen? ⟨w.heap.size + 1 + 1, i, none⟩ = false := fun W hW => by
            have O := (Hst.out.O.below (below_of_drew hb1) Hst.out.O.lt).below hW (Nat.lt_of_lt_of_le Hst.out.O.lt hb1.size)
            exact ⟨O.cell 0, O.cell 1, O.cell 2, O.cell 3, O.cell 4, O.cell 5, fun i => O.free i⟩
          have HO2 := hide hO2
          clear hO2
          go_wp2_with ((go_at_call 44; refine Hwf.out.mono ?_; rintro e w2 ⟨rcs, rfl, hrc, hb2⟩; obtain ⟨K2, k2, L2, l2, rfl⟩ := hrc.fields; obtain ⟨y0, y1, y2, y3, y4, y5, y6⟩ := HO2.out w2 hb2))
          have st2 := smap_step Hst.out hb1 hlt hl' Hgk.out hb2 hrc rfl rfl
          unfold set6 at st2
          generalize (World.setCell _ _ _) = W at st2 ⊢
          go_wp2
          exact ⟨⟨k + 1, _, hlt, hl', by simp, st2⟩, by simp [intOf]; omega⟩
      · have hki1 : (k : Int) < (keys.length : Int) := by omega
        have hki2 : ¬ (k : Int) < (l.length : Int) := by omega
        have Hend := hide (show mapC keys l k = mapOf keys (l.map fun r => r.tree.toRV) from mapOf_take_all _ _ _ (by simp; omega))
        obtain ⟨oK, okc, oL, olc, rfl⟩ := st.val.fields
        obtain ⟨q0, q1, q2, q3, q4, q5, q6, q7, q8, q9, q10, q11, q12⟩ := smap_facts st
        have hki0 : (0 : Int) ≤ (k : Int) := Int.natCast_nonneg _
        have Hst := hide st
        clear st
        go_wp2
        have hfin := smap_fin Hst.out Hend.out
        unfold set6 at hfin
        generalize (World.setCell _ _ _) = W at hfin ⊢
        obtain ⟨hW1, hW2, hW3⟩ := hfin
        refine bodyPost_ret (results_cell_row rfl _ _ (w.heap.size + 1) 26 #[.int .i64 6, .int .i64 0, .float .f64 0, .string ⟨#[]⟩, .slice oK (mapC keys l k).length okc, .slice oL (mapC keys l k).length olc] (0, 0) _ rfl hW1 Try.underlying26 rfl (by kernel_rfl)) rfl ?_
        exact ⟨_, rfl, by rw [fieldsOf_toRV]; exact hW3, hW2⟩
    · have hki1 : ¬ (k : Int) < (keys.length : Int) := by omega
      have Hend := hide (show mapC keys l k = mapOf keys (l.map fun r => r.tree.toRV) from mapOf_take_all _ _ _ (by simp; omega))
      obtain ⟨oK, okc, oL, olc, rfl⟩ := st.val.fields
      obtain ⟨q0, q1, q2, q3, q4, q5, q6, q7, q8, q9, q10, q11, q12⟩ := smap_facts st
      have hki0 : (0 : Int) ≤ (k : Int) := Int.natCast_nonneg _
      have Hst := hide st
      clear st
      go_wp2
      have hfin := smap_fin Hst.out Hend.out
      unfold set6 at hfin
      generalize (World.setCell _ _ _) = W at hfin ⊢
      obtain ⟨hW1, hW2, hW3⟩ := hfin
      refine bodyPost_ret (results_cell_row rfl _ _ (w.heap.size + 1) 26 #[.int .i64 6, .int .i64 0, .float .f64 0, .string ⟨#[]⟩, .slice oK (mapC keys l k).length okc, .slice oL (mapC keys l k).length olc] (0, 0) _ rfl hW1 Try.underlying26 rfl (by kernel_rfl)) rfl ?_
      exact ⟨_, rfl, by rw [fieldsOf_toRV]; exact hW3, hW2⟩

end Go.Proofs.Ytekaainjpddklaa
