/-
  Sets of steps (PathElementSet) in memory while they are built: Insert, toElemSet, Size.
-/
import Derived.Test.YtajeghkjppkhcaaGreatInsert
import Derived.Test.YtajeghkjppkhcaaGreatSearch
import Derived.Test.YtajeghkjppkhcaaGreatElemCI
import Derived.Handy
import Derived.Test.YtajeghkjppkhcaaGreatFLTo
set_option linter.unusedVariables false
set_option linter.unusedSimpArgs false
namespace Go.Proofs.YtajeghkjppkhcaaGreat
open Go.RowKit
attribute [local go_sem] run_store_float

/-- a set of steps that owns its row; what its steps hold lies elsewhere (F) -/
structure ESet (F : Nat → Prop) (w : World) (g : Nat) (l : List E) (s : Value) (xs : List Value) : Prop where
  bk : Bk w g 116 #[s]
  own : w.ownsRow 0 96 4 s l.length xs
  at_ : Cells 4 (PEAt F w) l xs
  sep : s.ownBlock ≠ some g

/-- nothing else was written than the block g and the row r -/
structure Grown2 (w w' : World) (g : Nat) (r : Option Nat) : Prop where
  os : w'.os = w.os
  tape : w'.tape = w.tape
  output : w'.output = w.output
  size : w.heap.size ≤ w'.heap.size
  block : ∀ k, k < w.heap.size → k ≠ g → some k ≠ r → w'.heap[k]? = w.heap[k]?

theorem ownsRow_kept {w w' : World} {e : TypeId} {size n : Nat} {v : Value} {xs : List Value} (h : w.ownsRow 0 e size v n xs) (k : ∀ b, v.ownBlock = some b → w'.heap[b]? = w.heap[b]?) : w'.ownsRow 0 e size v n xs := by
  obtain ⟨h1, h | ⟨g, cap, cur, rfl, h2, h3, h4⟩⟩ := h
  · exact ⟨h1, .inl h⟩
  · exact ⟨h1, .inr ⟨g, cap, cur, rfl, h2, (k g rfl).trans h3, h4⟩⟩
theorem setCell_same (w : World) (a : Addr) (v : Value) : (w.setCell a v).os = w.os ∧ (w.setCell a v).tape = w.tape ∧ (w.setCell a v).output = w.output ∧ (w.setCell a v).heap.size = w.heap.size := by
  refine ⟨?_, ?_, ?_, ?_⟩ <;> first | rfl | simp [World.setCell] | (unfold World.setCell; split <;> simp)

theorem pe_cells_one {F : Nat → Prop} {w : World} {l : List E} {xs : List Value} (h : Cells 4 (PEAt F w) l xs) : ∀ u ∈ xs, u.oneCell' = true :=
  h.ones (by decide) fun a cs h => by
    obtain ⟨a, b, c, d, rfl⟩ := h.form
    simp [Value.oneCell']

theorem Cells.drop_ {α : Type} {n : Nat} {P : α → List Value → Prop} {ls : List α} {xs : List Value} (h : Cells n P ls xs) (m : Nat) : Cells n P (ls.drop m) (xs.drop (m * n)) := by
  have l1 := h.1
  refine ⟨by rw [List.length_drop, List.length_drop, l1, Nat.sub_mul], fun i r hr => ?_⟩
  rw [List.getElem?_drop] at hr
  have := h.2 _ _ hr
  rw [Nat.add_mul, ← List.drop_drop] at this
  exact this

theorem pe_cells_laid {F : Nat → Prop} {w : World} {l : List E} {xs : List Value} {e : E} {cs : List Value} {i : Nat} (h : Cells 4 (PEAt F w) l xs) (he : PEAt F w e cs) (hl : cs.length = 4) (hi : i ≤ l.length) : Cells 4 (PEAt F w) (l.take i ++ e :: l.drop i) (laid 4 i cs xs) := by
  have h1 := h.take i hi
  have h2 := h.drop_ i
  have := (h1.append (Cells.one he hl)).append h2
  simpa [laid] using this

set_option maxRecDepth 100000 in
theorem insertCmp_calls {e1 e2 : E} {cs1 cs2 : List Value} {w : World} (h1 : PEAt (Old w) w e1 cs1) (h2 : PEAt (Old w) w e2 cs2) : Calls Tryz.prog 152 #[.agg cs1.toArray, .agg cs2.toArray] w (CmpPost (E.cmp e1 e2) w) := by
  obtain ⟨a0, a1, a2, a3, rfl⟩ := h1.form
  obtain ⟨b0, b1, b2, b3, rfl⟩ := h2.form
  have hb : Below w.heap.size w ((w.alloc (.cells #[.pointer a0, .pointer a1, .pointer a2, .pointer a3] 96)).alloc (.cells #[.pointer b0, .pointer b1, .pointer b2, .pointer b3] 96)) := ((Below.refl _ _).alloc (Nat.le_refl _) _).alloc (by simp) _
  have H := hide (peCompare_calls (h1.at_ hb) (h2.at_ hb))
  have Hb := hide hb
  clear h1 h2 hb
  go_enter Tryz.func152, Tryz.ntmps152
  go_wp2_with fail
  refine H.out.mono ?_
  rintro e w1 ⟨rfl, hb1⟩
  have Hb1 := hide (Hb.out.trans (hb1.mono Hb.out.size))
  clear hb1
  go_wp2
  go_ret
  exact ⟨rfl, Hb1.out⟩

/-- the same, the set as part of a struct: cell o of a block -/
structure ESetC (F : Nat → Prop) (w : World) (t : TypeId) (cs : Array Value) (g o : Nat) (l : List E) (s : Value) (xs : List Value) : Prop where
  bk : Bk w g t cs
  cell : cs[o]? = some s
  own : w.ownsRow 0 96 4 s l.length xs
  at_ : Cells 4 (PEAt F w) l xs
  sep : s.ownBlock ≠ some g
def EInsPostC (F : Nat → Prop) (w : World) (t : TypeId) (cs : Array Value) (g o : Nat) (l' : List E) (s : Value) (en : Ending) (w' : World) : Prop :=
  en = .returned (.tuple #[]) ∧ ∃ s' xs', ESetC F w' t (cs.setIfInBounds o s') g o l' s' xs' ∧ (s'.ownBlock = s.ownBlock ∨ ∃ b, s'.ownBlock = some b ∧ w.heap.size ≤ b) ∧ Grown2 w w' g s.ownBlock
theorem set_idem {cs : Array Value} {o : Nat} {s : Value} (h : cs[o]? = some s) : cs.setIfInBounds o s = cs := by
  apply Array.ext_getElem?
  intro i
  rw [Array.getElem?_setIfInBounds]
  split
  · rename_i e
    subst e
    split
    · exact h.symm
    · rename_i hh
      rw [Array.getElem?_eq_none (by omega)]
  · rfl
theorem set_cell {cs : Array Value} {o : Nat} {s : Value} (h : cs[o]? = some s) (u : Value) : (cs.setIfInBounds o u)[o]? = some u := by
  obtain ⟨h1, -⟩ := Array.getElem?_eq_some_iff.1 h
  rw [Array.getElem?_setIfInBounds, if_pos rfl, if_pos h1]

set_option maxRecDepth 100000 in
set_option maxHeartbeats 4000000 in
theorem esInsertC_calls {F : Nat → Prop} {w : World} {t : TypeId} {cs : Array Value} {g o : Nat} {l : List E} {s : Value} {xs : List Value} {e : E} {p0 p1 p2 p3 : Option Addr} (hs : ESetC F w t cs g o l s xs) (hF : ∀ b, F b → b < w.heap.size ∧ b ≠ g ∧ s.ownBlock ≠ some b)
    (hpe : PEAt F w e [.pointer p0, .pointer p1, .pointer p2, .pointer p3]) (hok : POk l) (he : e.Ok) (hso : SortC E.cmp l) (hn : (l.length + 1) * 32 ≤ R47) :
    Calls Tryz.prog 100 #[.pointer (some ⟨g, o, none⟩), .agg #[.pointer p0, .pointer p1, .pointer p2, .pointer p3]] w (EInsPostC F w t cs g o (insC E.cmp e l) s) := by
  have hn' : (l.length + 1) * 32 ≤ 140737488351232 := hn
  have hg := hs.bk.lt
  have hlt := hs.own.lt
  obtain ⟨sA, sc, rfl, hc1, hc2⟩ := own_form hs.own
  have hco := hs.cell
  have hbx : Below w.heap.size w (w.alloc (.cells #[.pointer p0, .pointer p1, .pointer p2, .pointer p3] 96)) := (Below.refl _ _).alloc (Nat.le_refl _) _
  obtain ⟨w1, hw1⟩ : ∃ w1, w.alloc (.cells #[.pointer p0, .pointer p1, .pointer p2, .pointer p3] 96) = w1 := ⟨_, rfl⟩
  have hbox : Bk w1 w.heap.size 96 #[.pointer p0, .pointer p1, .pointer p2, .pointer p3] := by rw [← hw1]; exact Bk.new _ _ _
  rw [hw1] at hbx
  have hsz1 : w1.heap.size = w.heap.size + 1 := by rw [← hw1, World.size_alloc]
  have hbk1 : Bk w1 g t cs := hs.bk.below hbx hg
  have kF : Keeps F w w1 := Keeps.below hbx fun b hb => (hF b hb).1
  have hx1 := hs.at_.mono fun _ _ h => h.keeps kF
  have hpe1 := hpe.keeps kF
  have hown1 : w1.ownsRow 0 96 4 (.slice sA l.length sc) l.length xs := by rw [← hw1]; exact hs.own.alloc _
  have hlt1 := hown1.lt
  -- the search
  have hsearch := searchE_calls (f := 152) (fun args W => by kernel_rfl) (Q := fun W a cs => PEAt (Old W) W a cs) (l := l) (A := sA) (c := sc) (w := w1.drew) (xs := xs) (e := e) (t0 := .pointer p0) (t1 := .pointer p1) (t2 := .pointer p2) (t3 := .pointer p3)
    (by unfold R47; omega) ((Row.of_own hown1 fun b hb => (hlt1 b hb).2).keeps (Keeps.below (below_drew (Below.refl w1.heap.size w1)) fun _ h => h)) (hx1.mono fun a cs h => (h.mono fun b hb => by have := (hF b hb).1; show b < w1.heap.size; omega).at_ (below_drew (Below.refl _ _)))
    (fun W a cs hb h => h.at_ hb) (fun W a cs h => by obtain ⟨a, b, c, d, rfl⟩ := h.form; rfl) hok he hso
    (fun a cs W hb h => insertCmp_calls h ((hpe1.mono fun b hb => by have := (hF b hb).1; show b < w1.heap.size; omega).at_ ((below_drew (Below.refl w1.heap.size w1)).trans hb)))
  have Hs := hide hsearch
  have H0 := hide (And.intro hs (And.intro hF (And.intro hx1 (And.intro hpe1 (And.intro hown1 (And.intro hbx hso))))))
  have Hbk := hide (And.intro hbk1 hbox)
  have m0 := (hbk1.cell o).trans hco
  have b0 := hbox.cell 0
  have b1 := hbox.cell 1
  have b2 := hbox.cell 2
  have b3 := hbox.cell 3
  simp at b0 b1 b2 b3
  have hgne : ¬ g = w.heap.size := by omega
  have hgl1 := hbk1.lt
  have hxl1 := hbox.lt
  clear hsearch hs hF hx1 hpe1 hown1 hbx hbk1 hbox hlt hlt1 hpe kF hc1 hc2
  go_enter Tryz.func100, Tryz.ntmps100
  go_wp2_with fail
  try rw [hw1]
  obtain ⟨S, hS⟩ : ∃ S, (fun W => Bk W g t cs ∧ Bk W w.heap.size 96 #[.pointer p0, .pointer p1, .pointer p2, .pointer p3]) = S := ⟨_, rfl⟩
  have hS0 : S w1.drew := by rw [← hS]; exact ⟨Hbk.out.1.drew, Hbk.out.2.drew⟩
  refine wp_region_head 10 S (by rfl) (by kernel_rfl) ?_
  refine HT.take 0 (v := ?_) rfl (by kernel_rfl) (fun _ _ _ h => h) (Or.inl ⟨by rfl, ?_⟩) (by assumption) ?_
  rotate_left
  · intro W hSw; rw [← hS] at hSw; have hSw := show Bk W g t cs ∧ Bk W w.heap.size 96 #[.pointer p0, .pointer p1, .pointer p2, .pointer p3] from hSw; have m0 := (hSw.1.cell o).trans hco; have gl := hSw.1.lt; have bl := hSw.2.lt; obtain ⟨-, hSw⟩ := hSw; have b0 := hSw.cell 0; have b1 := hSw.cell 1; have b2 := hSw.cell 2; have b3 := hSw.cell 3; clear hSw; simp at b0 b1 b2 b3; go_simp; with_reducible rfl
  simp only [Act.put, List.setIfInBounds_toArray, List.set_cons_zero, List.set_cons_succ]
  refine HT.take 1 (v := ?_) rfl (by kernel_rfl) (fun _ _ _ h => h) (Or.inl ⟨by rfl, ?_⟩) (by assumption) ?_
  rotate_left
  · intro W hSw; rw [← hS] at hSw; have hSw := show Bk W g t cs ∧ Bk W w.heap.size 96 #[.pointer p0, .pointer p1, .pointer p2, .pointer p3] from hSw; have m0 := (hSw.1.cell o).trans hco; have gl := hSw.1.lt; have bl := hSw.2.lt; obtain ⟨-, hSw⟩ := hSw; have b0 := hSw.cell 0; have b1 := hSw.cell 1; have b2 := hSw.cell 2; have b3 := hSw.cell 3; clear hSw; simp at b0 b1 b2 b3; go_simp; with_reducible rfl
  simp only [Act.put, List.setIfInBounds_toArray, List.set_cons_zero, List.set_cons_succ]
  refine HT.take 2 (v := ?_) rfl (by kernel_rfl) (fun _ _ _ h => h) (Or.inl ⟨by rfl, ?_⟩) (by assumption) ?_
  rotate_left
  · intro W hSw; rw [← hS] at hSw; have hSw := show Bk W g t cs ∧ Bk W w.heap.size 96 #[.pointer p0, .pointer p1, .pointer p2, .pointer p3] from hSw; have m0 := (hSw.1.cell o).trans hco; have gl := hSw.1.lt; have bl := hSw.2.lt; obtain ⟨-, hSw⟩ := hSw; have b0 := hSw.cell 0; have b1 := hSw.cell 1; have b2 := hSw.cell 2; have b3 := hSw.cell 3; clear hSw; simp at b0 b1 b2 b3; go_simp; with_reducible rfl
  simp only [Act.put, List.setIfInBounds_toArray, List.set_cons_zero, List.set_cons_succ]
  refine HT.take 3 (v := ?_) rfl (by kernel_rfl) (fun _ _ _ h => h) (Or.inl ⟨by rfl, ?_⟩) (by assumption) ?_
  rotate_left
  · intro W hSw; rw [← hS] at hSw; have hSw := show Bk W g t cs ∧ Bk W w.heap.size 96 #[.pointer p0, .pointer p1, .pointer p2, .pointer p3] from hSw; have m0 := (hSw.1.cell o).trans hco; have gl := hSw.1.lt; have bl := hSw.2.lt; obtain ⟨-, hSw⟩ := hSw; have b0 := hSw.cell 0; have b1 := hSw.cell 1; have b2 := hSw.cell 2; have b3 := hSw.cell 3; clear hSw; simp at b0 b1 b2 b3; go_simp; with_reducible rfl
  simp only [Act.put, List.setIfInBounds_toArray, List.set_cons_zero, List.set_cons_succ]
  refine HT.take 4 (v := ?_) rfl (by kernel_rfl) (fun _ _ _ h => h) (Or.inl ⟨by rfl, ?_⟩) (by assumption) ?_
  rotate_left
  · intro W hSw; rw [← hS] at hSw; have hSw := show Bk W g t cs ∧ Bk W w.heap.size 96 #[.pointer p0, .pointer p1, .pointer p2, .pointer p3] from hSw; have m0 := (hSw.1.cell o).trans hco; have gl := hSw.1.lt; have bl := hSw.2.lt; obtain ⟨-, hSw⟩ := hSw; have b0 := hSw.cell 0; have b1 := hSw.cell 1; have b2 := hSw.cell 2; have b3 := hSw.cell 3; clear hSw; simp at b0 b1 b2 b3; go_simp; with_reducible rfl
  simp only [Act.put, List.setIfInBounds_toArray, List.set_cons_zero, List.set_cons_succ]
  refine HT.one 5 rfl (by kernel_rfl) (by rfl) (fun K hK => ?_)
  go_simp
  refine Hs.out.mono ?_
  rintro en w2 ⟨rfl, hb2⟩
  have hb2' : Below w1.heap.size w1 w2 := below_drew' hb2
  have hS1 : S w2 := by rw [← hS]; exact ⟨Hbk.out.1.drew.below hb2 hgl1, Hbk.out.2.drew.below hb2 hxl1⟩
  obtain ⟨hh, hhe⟩ : ∃ hh, hasC E.cmp e l = hh := ⟨_, rfl⟩
  rw [hhe]
  go_simp
  refine hK.out _ _ hS1 ?_
  clear hK
  refine HT.take 6 (v := ?_) rfl (by kernel_rfl) (fun _ _ _ h => h) (Or.inl ⟨by rfl, ?_⟩) (by assumption) ?_
  rotate_left
  · intro W hSw; go_simp; with_reducible rfl
  simp only [Act.put, List.setIfInBounds_toArray, List.set_cons_zero, List.set_cons_succ]
  refine HT.take 7 (v := ?_) rfl (by kernel_rfl) (fun _ _ _ h => h) (Or.inl ⟨by rfl, ?_⟩) (by assumption) ?_
  rotate_left
  · intro W hSw; go_simp; with_reducible rfl
  simp only [Act.put, List.setIfInBounds_toArray, List.set_cons_zero, List.set_cons_succ]
  refine HT.take 8 (v := ?_) rfl (by kernel_rfl) (fun _ _ _ h => h) (Or.inl ⟨by rfl, ?_⟩) (by assumption) ?_
  rotate_left
  · intro W hSw; go_simp; with_reducible rfl
  simp only [Act.put, List.setIfInBounds_toArray, List.set_cons_zero, List.set_cons_succ]
  refine HT.take 9 (v := ?_) rfl (by kernel_rfl) (fun _ _ _ h => h) (Or.inl ⟨by rfl, ?_⟩) (by assumption) ?_
  rotate_left
  · intro W hSw; go_simp; with_reducible rfl
  simp only [Act.put, List.setIfInBounds_toArray, List.set_cons_zero, List.set_cons_succ]
  refine HT.done (by kernel_rfl) ?_
  have hbk2 : Bk w2 g t cs := Hbk.out.1.drew.below hb2 hgl1
  have hbox2 : Bk w2 w.heap.size 96 #[.pointer p0, .pointer p1, .pointer p2, .pointer p3] := Hbk.out.2.drew.below hb2 hxl1
  have hb02 : Below w.heap.size w w2 := H0.out.2.2.2.2.2.1.trans (hb2'.mono H0.out.2.2.2.2.2.1.size)
  have hx2 : Cells 4 (PEAt F w2) l xs := H0.out.2.2.1.mono fun _ _ h => h.keeps (Keeps.below hb2' fun b hb => by have := (H0.out.2.1 b hb).1; omega)
  have hpe2 : PEAt F w2 e [.pointer p0, .pointer p1, .pointer p2, .pointer p3] := H0.out.2.2.2.1.keeps (Keeps.below hb2' fun b hb => by have := (H0.out.2.1 b hb).1; omega)
  have hown2 : w2.ownsRow 0 96 4 (.slice sA l.length sc) l.length xs := ownsRow_below H0.out.2.2.2.2.1 hb2' (Nat.le_refl _)
  have H2 := hide (And.intro hbk2 (And.intro hbox2 (And.intro hb02 (And.intro hx2 (And.intro hpe2 hown2)))))
  have hgl2 := hbk2.lt
  have hxl2 := hbox2.lt
  clear hb2 hb2' hS0 hS1 hbk2 hbox2 hb02 hx2 hpe2 hown2 m0 b0 b1 b2 b3
  cases hh
  · have hins : insC E.cmp e l = l.take (cntC E.cmp e l) ++ e :: l.drop (cntC E.cmp e l) := by rw [insC_eq, if_neg (by rw [hhe]; decide)]
    have hcl := cntC_le (c := E.cmp) e l
    have Hins := hide hins
    clear hins hhe Hs
    generalize cntC E.cmp e l = cnt at *
    go_wp2_with fail
    have hS0 : S w2.drew := by rw [← hS]; exact ⟨H2.out.1.drew, H2.out.2.1.drew⟩
    have hbL : Below w2.heap.size w2 (w2.drew.alloc (.cells #[.pointer p0, .pointer p1, .pointer p2, .pointer p3] 96)) := (below_drew (Below.refl w2.heap.size w2)).alloc (Nat.le_refl _) _
    have hvb : Bk (w2.drew.alloc (.cells #[.pointer p0, .pointer p1, .pointer p2, .pointer p3] 96)) w2.heap.size 96 #[.pointer p0, .pointer p1, .pointer p2, .pointer p3] := Bk.new w2.drew _ _
    have hownL : ((w2.drew.alloc (.cells #[.pointer p0, .pointer p1, .pointer p2, .pointer p3] 96))).ownsRow 0 96 4 (.slice sA l.length sc) l.length xs := ownsRow_below H2.out.2.2.2.2.2 hbL (Nat.le_refl _)
    have hltL := H2.out.2.2.2.2.2.lt
    have hS3 : S (w2.drew.alloc (.cells #[.pointer p0, .pointer p1, .pointer p2, .pointer p3] 96)) := by rw [← hS]; exact ⟨H2.out.1.drew.alloc _, H2.out.2.1.drew.alloc _⟩
    have HI := hide (insertE_calls (i := cnt) (vs := [.pointer p0, .pointer p1, .pointer p2, .pointer p3]) hownL hcl hvb rfl (by simp [Value.oneCell']) (pe_cells_one H2.out.2.2.2.1) (fun e => by have := (hltL _ e).2; omega) (by omega))
    have HL := hide (And.intro hbL (And.intro hS3 hltL))
    clear hbL hvb hownL hltL hS3
    refine wp_region_head 9 S (by rfl) (by kernel_rfl) ?_
    refine HT.take 0 (v := ?_) rfl (by kernel_rfl) (fun _ _ _ h => h) (Or.inl ⟨by rfl, ?_⟩) (by assumption) ?_
    rotate_left
    · intro W hSw; rw [← hS] at hSw; have hSw := show Bk W g t cs ∧ Bk W w.heap.size 96 #[.pointer p0, .pointer p1, .pointer p2, .pointer p3] from hSw; have m0 := (hSw.1.cell o).trans hco; have gl := hSw.1.lt; have bl := hSw.2.lt; obtain ⟨-, hSw⟩ := hSw; have b0 := hSw.cell 0; have b1 := hSw.cell 1; have b2 := hSw.cell 2; have b3 := hSw.cell 3; clear hSw; simp at b0 b1 b2 b3; go_simp; with_reducible rfl
    simp only [Act.put, List.setIfInBounds_toArray, List.set_cons_zero, List.set_cons_succ]
    refine HT.take 1 (v := ?_) rfl (by kernel_rfl) (fun _ _ _ h => h) (Or.inl ⟨by rfl, ?_⟩) (by assumption) ?_
    rotate_left
    · intro W hSw; rw [← hS] at hSw; have hSw := show Bk W g t cs ∧ Bk W w.heap.size 96 #[.pointer p0, .pointer p1, .pointer p2, .pointer p3] from hSw; have m0 := (hSw.1.cell o).trans hco; have gl := hSw.1.lt; have bl := hSw.2.lt; obtain ⟨-, hSw⟩ := hSw; have b0 := hSw.cell 0; have b1 := hSw.cell 1; have b2 := hSw.cell 2; have b3 := hSw.cell 3; clear hSw; simp at b0 b1 b2 b3; go_simp; with_reducible rfl
    simp only [Act.put, List.setIfInBounds_toArray, List.set_cons_zero, List.set_cons_succ]
    refine HT.take 2 (v := ?_) rfl (by kernel_rfl) (fun _ _ _ h => h) (Or.inl ⟨by rfl, ?_⟩) (by assumption) ?_
    rotate_left
    · intro W hSw; rw [← hS] at hSw; have hSw := show Bk W g t cs ∧ Bk W w.heap.size 96 #[.pointer p0, .pointer p1, .pointer p2, .pointer p3] from hSw; have m0 := (hSw.1.cell o).trans hco; have gl := hSw.1.lt; have bl := hSw.2.lt; obtain ⟨-, hSw⟩ := hSw; have b0 := hSw.cell 0; have b1 := hSw.cell 1; have b2 := hSw.cell 2; have b3 := hSw.cell 3; clear hSw; simp at b0 b1 b2 b3; go_simp; with_reducible rfl
    simp only [Act.put, List.setIfInBounds_toArray, List.set_cons_zero, List.set_cons_succ]
    refine HT.take 3 (v := ?_) rfl (by kernel_rfl) (fun _ _ _ h => h) (Or.inl ⟨by rfl, ?_⟩) (by assumption) ?_
    rotate_left
    · intro W hSw; rw [← hS] at hSw; have hSw := show Bk W g t cs ∧ Bk W w.heap.size 96 #[.pointer p0, .pointer p1, .pointer p2, .pointer p3] from hSw; have m0 := (hSw.1.cell o).trans hco; have gl := hSw.1.lt; have bl := hSw.2.lt; obtain ⟨-, hSw⟩ := hSw; have b0 := hSw.cell 0; have b1 := hSw.cell 1; have b2 := hSw.cell 2; have b3 := hSw.cell 3; clear hSw; simp at b0 b1 b2 b3; go_simp; with_reducible rfl
    simp only [Act.put, List.setIfInBounds_toArray, List.set_cons_zero, List.set_cons_succ]
    refine HT.take 4 (v := ?_) rfl (by kernel_rfl) (fun _ _ _ h => h) (Or.inl ⟨by rfl, ?_⟩) (by assumption) ?_
    rotate_left
    · intro W hSw; rw [← hS] at hSw; have hSw := show Bk W g t cs ∧ Bk W w.heap.size 96 #[.pointer p0, .pointer p1, .pointer p2, .pointer p3] from hSw; have m0 := (hSw.1.cell o).trans hco; have gl := hSw.1.lt; have bl := hSw.2.lt; obtain ⟨-, hSw⟩ := hSw; have b0 := hSw.cell 0; have b1 := hSw.cell 1; have b2 := hSw.cell 2; have b3 := hSw.cell 3; clear hSw; simp at b0 b1 b2 b3; go_simp; with_reducible rfl
    simp only [Act.put, List.setIfInBounds_toArray, List.set_cons_zero, List.set_cons_succ]
    refine HT.take 5 (v := ?_) rfl (by kernel_rfl) (fun _ _ _ h => h) (Or.inl ⟨by rfl, ?_⟩) (by assumption) ?_
    rotate_left
    · intro W hSw; rw [← hS] at hSw; have hSw := show Bk W g t cs ∧ Bk W w.heap.size 96 #[.pointer p0, .pointer p1, .pointer p2, .pointer p3] from hSw; have m0 := (hSw.1.cell o).trans hco; have gl := hSw.1.lt; have bl := hSw.2.lt; obtain ⟨-, hSw⟩ := hSw; have b0 := hSw.cell 0; have b1 := hSw.cell 1; have b2 := hSw.cell 2; have b3 := hSw.cell 3; clear hSw; simp at b0 b1 b2 b3; go_simp; with_reducible rfl
    simp only [Act.put, List.setIfInBounds_toArray, List.set_cons_zero, List.set_cons_succ]
    refine HT.take 6 (v := ?_) rfl (by kernel_rfl) (fun _ _ _ h => h) (Or.inl ⟨by rfl, ?_⟩) (by assumption) ?_
    rotate_left
    · intro W hSw; rw [← hS] at hSw; have hSw := show Bk W g t cs ∧ Bk W w.heap.size 96 #[.pointer p0, .pointer p1, .pointer p2, .pointer p3] from hSw; have m0 := (hSw.1.cell o).trans hco; have gl := hSw.1.lt; have bl := hSw.2.lt; obtain ⟨-, hSw⟩ := hSw; have b0 := hSw.cell 0; have b1 := hSw.cell 1; have b2 := hSw.cell 2; have b3 := hSw.cell 3; clear hSw; simp at b0 b1 b2 b3; go_simp; with_reducible rfl
    simp only [Act.put, List.setIfInBounds_toArray, List.set_cons_zero, List.set_cons_succ]
    refine HT.one 7 rfl (by kernel_rfl) (by rfl) (fun K hK => ?_)
    go_simp
    refine hK.out _ _ HL.out.2.1 ?_
    clear hK
    refine HT.one 8 rfl (by kernel_rfl) (by rfl) (fun K hK => ?_)
    go_simp
    refine HI.out.mono ?_
    rintro en w4 ⟨s', rfl, hown4, hgr, hblk⟩
    have hbk4 : Bk w4 g t cs := (H2.out.1.drew.alloc _).grown hgr (fun e => H0.out.1.sep e.symm)
    have hbox4 : Bk w4 w.heap.size 96 #[.pointer p0, .pointer p1, .pointer p2, .pointer p3] := (H2.out.2.1.drew.alloc _).grown hgr (fun e => by have := (H0.out.1.own.lt _ e.symm).2; omega)
    have hS4 : S w4 := by rw [← hS]; exact ⟨hbk4, hbox4⟩
    obtain ⟨A4, c4, rfl, _, _⟩ := own_form hown4
    go_simp
    refine hK.out _ _ hS4 ?_
    clear hK
    refine HT.done (by kernel_rfl) ?_
    have m4 := (hbk4.cell o).trans hco
    have f4 := hbk4.free
    have l4 := hbk4.lt
    have hsz : w2.heap.size + 1 ≤ w4.heap.size := by have := hgr.size; rw [World.size_alloc] at this; exact this
    have hkF : Keeps F w2 (w4.setCell ⟨g, o, none⟩ (.slice A4 (l.length + 1) c4)) := by
      intro b hb
      have h1 := H0.out.2.1 b hb
      have h2 := H2.out.2.2.1.size
      rw [Below.heap_setCell _ _ _ _ (by simp only; exact h1.2.1), hgr.block b (by rw [World.size_alloc]; show b < w2.heap.size + 1; omega) (fun e => h1.2.2 e.symm), Below.heap_alloc _ _ _ (show b < w2.drew.heap.size from by show b < w2.heap.size; omega)]
      rfl
    have hcs := pe_cells_laid (H2.out.2.2.2.1.mono fun _ _ h => h.keeps hkF) (H2.out.2.2.2.2.1.keeps hkF) rfl hcl
    have hsep : (Value.slice A4 (l.length + 1) c4).ownBlock ≠ some g := by
      rcases hblk with e | ⟨b, e, hb⟩
      · rw [e]; exact H0.out.1.sep
      · rw [e]; intro e2; cases e2; rw [World.size_alloc] at hb; have : w2.heap.size + 1 ≤ g := hb; omega
    have hown5 : (w4.setCell ⟨g, o, none⟩ (.slice A4 (l.length + 1) c4)).ownsRow 0 96 4 (.slice A4 (l.length + 1) c4) (l.length + 1) (laid 4 cnt [.pointer p0, .pointer p1, .pointer p2, .pointer p3] xs) :=
      ownsRow_kept hown4 fun b hb => Below.heap_setCell _ _ _ _ (fun e => hsep (by rw [hb]; exact congrArg some e))
    have hbk5 : Bk (w4.setCell ⟨g, o, none⟩ (.slice A4 (l.length + 1) c4)) g t (cs.setIfInBounds o (.slice A4 (l.length + 1) c4)) := hbk4.set_ o (.slice A4 (l.length + 1) c4)
    have hlen : (l.take cnt ++ e :: l.drop cnt).length = l.length + 1 := by simp; omega
    have hG2 : Grown2 w (w4.setCell ⟨g, o, none⟩ (.slice A4 (l.length + 1) c4)) g (Value.slice sA l.length sc).ownBlock := by
      have hb := H2.out.2.2.1
      refine ⟨(setCell_same _ _ _).1.trans (hgr.os.trans hb.os), (setCell_same _ _ _).2.1.trans (hgr.tape.trans hb.tape), (setCell_same _ _ _).2.2.1.trans (hgr.output.trans hb.output), by rw [(setCell_same _ _ _).2.2.2]; have := hb.size; omega, fun k hk hkg hkr => ?_⟩
      have h2 := hb.size
      rw [Below.heap_setCell _ _ _ _ (by simp only; exact hkg), hgr.block k (by rw [World.size_alloc]; show k < w2.heap.size + 1; omega) hkr, Below.heap_alloc _ _ _ (show k < w2.drew.heap.size from by show k < w2.heap.size; omega)]
      exact hb.block k hk
    have Hfin := hide (And.intro (ESetC.mk hbk5 (set_cell hco _) (by rw [hlen]; exact hown5) hcs hsep : ESetC F _ t _ g o (l.take cnt ++ e :: l.drop cnt) _ _) (And.intro (show (Value.slice A4 (l.length + 1) c4).ownBlock = (Value.slice sA l.length sc).ownBlock ∨ ∃ b, (Value.slice A4 (l.length + 1) c4).ownBlock = some b ∧ w.heap.size ≤ b from hblk.imp id fun ⟨b, e, hb⟩ => ⟨b, e, by have := H2.out.2.2.1.size; rw [World.size_alloc] at hb; have : w2.heap.size + 1 ≤ b := hb; omega⟩) hG2))
    clear hown4 hgr hblk hbk4 hbox4 hS4 hkF hcs hsep hown5 hbk5 hlen hG2
    go_wp2
    go_returns
    exact ⟨rfl, _, _, by rw [Hins.out]; exact Hfin.out.1, Hfin.out.2.1, Hfin.out.2.2⟩
  · have hins : insC E.cmp e l = l := by rw [insC_eq, if_pos hhe]
    have Hins := hide hins
    clear hins
    go_wp2
    go_returns
    refine ⟨rfl, _, xs, ?_, .inl rfl, ?_⟩
    · rw [Hins.out]
      rw [set_idem hco]
      exact ⟨H2.out.1, hco, H2.out.2.2.2.2.2, H2.out.2.2.2.1, H0.out.1.sep⟩
    · exact ⟨H2.out.2.2.1.os, H2.out.2.2.1.tape, H2.out.2.2.1.output, H2.out.2.2.1.size, fun k hk _ _ => H2.out.2.2.1.block k hk⟩

end Go.Proofs.YtajeghkjppkhcaaGreat
