/-
  Several texts in one: ElemCmp, ElemImpl.
-/
import Derived.Test.YtajeghkjppkhcaaGreatFLTo
set_option linter.unusedVariables false
set_option linter.unusedSimpArgs false
/-!
  fieldpath.PathElement: Compare and Equals; impl.CompareElems, impl.EqualElems.
-/

namespace Go.Proofs.YtajeghkjppkhcaaGreat
open Go.RowKit
attribute [local go_sem] run_store_float

/-- two steps' structs, each a block of its own -/
structure PE2 (w : World) (a0 a1 a2 a3 b0 b1 b2 b3 : Value) (W : World) : Prop where
  below : Below w.heap.size w W
  a : Bk W w.heap.size 96 #[a0, a1, a2, a3]
  b : Bk W (w.heap.size + 1) 96 #[b0, b1, b2, b3]
section
variable {w W W' : World} {a0 a1 a2 a3 b0 b1 b2 b3 : Value}
theorem PE2.call (h : PE2 w a0 a1 a2 a3 b0 b1 b2 b3 W) (hb : Below W.heap.size W W') : PE2 w a0 a1 a2 a3 b0 b1 b2 b3 W' :=
  ⟨h.below.trans (hb.mono h.below.size), h.a.below hb h.a.lt, h.b.below hb h.b.lt⟩
theorem PE2.made (w : World) (a0 a1 a2 a3 b0 b1 b2 b3 : Value) : PE2 w a0 a1 a2 a3 b0 b1 b2 b3 ((w.alloc (.cells #[a0, a1, a2, a3] 96)).alloc (.cells #[b0, b1, b2, b3] 96)) := by
  refine ⟨below_two w _ _, (Bk.new _ _ _).alloc _, ?_⟩
  have := Bk.new (w.alloc (.cells #[a0, a1, a2, a3] 96)) 96 #[b0, b1, b2, b3]
  simpa only [World.size_alloc] using this
theorem PE2.cells (h : PE2 w a0 a1 a2 a3 b0 b1 b2 b3 W) : W.cell? ⟨w.heap.size, 0, none⟩ = some a0 ∧ W.cell? ⟨w.heap.size, 1, none⟩ = some a1 ∧ W.cell? ⟨w.heap.size, 2, none⟩ = some a2 ∧ W.cell? ⟨w.heap.size, 3, none⟩ = some a3 ∧
    W.cell? ⟨w.heap.size + 1, 0, none⟩ = some b0 ∧ W.cell? ⟨w.heap.size + 1, 1, none⟩ = some b1 ∧ W.cell? ⟨w.heap.size + 1, 2, none⟩ = some b2 ∧ W.cell? ⟨w.heap.size + 1, 3, none⟩ = some b3 :=
  ⟨h.a.cell 0, h.a.cell 1, h.a.cell 2, h.a.cell 3, h.b.cell 0, h.b.cell 1, h.b.cell 2, h.b.cell 3⟩
end
/-- the cells that the comparison of two steps of one kind loads -/
structure PES (w : World) (a0 a1 a2 a3 b0 b1 b2 b3 : Value) (g1 g2 : Nat) (u v : Value) (W : World) : Prop where
  st : PE2 w a0 a1 a2 a3 b0 b1 b2 b3 W
  u : W.cell? ⟨g1, 0, none⟩ = some u
  v : W.cell? ⟨g2, 0, none⟩ = some v
theorem PES.call {w W W' : World} {a0 a1 a2 a3 b0 b1 b2 b3 : Value} {g1 g2 : Nat} {u v : Value} (h : PES w a0 a1 a2 a3 b0 b1 b2 b3 g1 g2 u v W) (hb : Below W.heap.size W W') (h1 : g1 < W.heap.size) (h2 : g2 < W.heap.size) : PES w a0 a1 a2 a3 b0 b1 b2 b3 g1 g2 u v W' :=
  ⟨h.st.call hb, ((bcell hb).1 _ _ h1).trans h.u, ((bcell hb).1 _ _ h2).trans h.v⟩

set_option maxRecDepth 100000 in
theorem peCompare_01 (g1 g2 : Nat) (w : World) : Calls Tryz.prog 126 #[.agg #[.pointer (some ⟨g1, 0, none⟩), .pointer none, .pointer none, .pointer none], .agg #[.pointer none, .pointer (some ⟨g2, 0, none⟩), .pointer none, .pointer none]] w (CmpPost (-1) w) := by
  go_enter Tryz.func126, Tryz.ntmps126
  go_wp2
  go_ret
  exact ⟨rfl, below_two _ _ _⟩
set_option maxRecDepth 100000 in
theorem peCompare_02 (g1 g2 : Nat) (w : World) : Calls Tryz.prog 126 #[.agg #[.pointer (some ⟨g1, 0, none⟩), .pointer none, .pointer none, .pointer none], .agg #[.pointer none, .pointer none, .pointer (some ⟨g2, 0, none⟩), .pointer none]] w (CmpPost (-1) w) := by
  go_enter Tryz.func126, Tryz.ntmps126
  go_wp2
  go_ret
  exact ⟨rfl, below_two _ _ _⟩
set_option maxRecDepth 100000 in
theorem peCompare_03 (g1 g2 : Nat) (w : World) : Calls Tryz.prog 126 #[.agg #[.pointer (some ⟨g1, 0, none⟩), .pointer none, .pointer none, .pointer none], .agg #[.pointer none, .pointer none, .pointer none, .pointer (some ⟨g2, 0, none⟩)]] w (CmpPost (-1) w) := by
  go_enter Tryz.func126, Tryz.ntmps126
  go_wp2
  go_ret
  exact ⟨rfl, below_two _ _ _⟩
set_option maxRecDepth 100000 in
theorem peCompare_10 (g1 g2 : Nat) (w : World) : Calls Tryz.prog 126 #[.agg #[.pointer none, .pointer (some ⟨g1, 0, none⟩), .pointer none, .pointer none], .agg #[.pointer (some ⟨g2, 0, none⟩), .pointer none, .pointer none, .pointer none]] w (CmpPost (1) w) := by
  go_enter Tryz.func126, Tryz.ntmps126
  go_wp2
  go_ret
  exact ⟨rfl, below_two _ _ _⟩
set_option maxRecDepth 100000 in
theorem peCompare_12 (g1 g2 : Nat) (w : World) : Calls Tryz.prog 126 #[.agg #[.pointer none, .pointer (some ⟨g1, 0, none⟩), .pointer none, .pointer none], .agg #[.pointer none, .pointer none, .pointer (some ⟨g2, 0, none⟩), .pointer none]] w (CmpPost (-1) w) := by
  go_enter Tryz.func126, Tryz.ntmps126
  go_wp2
  go_ret
  exact ⟨rfl, below_two _ _ _⟩
set_option maxRecDepth 100000 in
theorem peCompare_13 (g1 g2 : Nat) (w : World) : Calls Tryz.prog 126 #[.agg #[.pointer none, .pointer (some ⟨g1, 0, none⟩), .pointer none, .pointer none], .agg #[.pointer none, .pointer none, .pointer none, .pointer (some ⟨g2, 0, none⟩)]] w (CmpPost (-1) w) := by
  go_enter Tryz.func126, Tryz.ntmps126
  go_wp2
  go_ret
  exact ⟨rfl, below_two _ _ _⟩
set_option maxRecDepth 100000 in
theorem peCompare_20 (g1 g2 : Nat) (w : World) : Calls Tryz.prog 126 #[.agg #[.pointer none, .pointer none, .pointer (some ⟨g1, 0, none⟩), .pointer none], .agg #[.pointer (some ⟨g2, 0, none⟩), .pointer none, .pointer none, .pointer none]] w (CmpPost (1) w) := by
  go_enter Tryz.func126, Tryz.ntmps126
  go_wp2
  go_ret
  exact ⟨rfl, below_two _ _ _⟩
set_option maxRecDepth 100000 in
theorem peCompare_21 (g1 g2 : Nat) (w : World) : Calls Tryz.prog 126 #[.agg #[.pointer none, .pointer none, .pointer (some ⟨g1, 0, none⟩), .pointer none], .agg #[.pointer none, .pointer (some ⟨g2, 0, none⟩), .pointer none, .pointer none]] w (CmpPost (1) w) := by
  go_enter Tryz.func126, Tryz.ntmps126
  go_wp2
  go_ret
  exact ⟨rfl, below_two _ _ _⟩
set_option maxRecDepth 100000 in
theorem peCompare_23 (g1 g2 : Nat) (w : World) : Calls Tryz.prog 126 #[.agg #[.pointer none, .pointer none, .pointer (some ⟨g1, 0, none⟩), .pointer none], .agg #[.pointer none, .pointer none, .pointer none, .pointer (some ⟨g2, 0, none⟩)]] w (CmpPost (-1) w) := by
  go_enter Tryz.func126, Tryz.ntmps126
  go_wp2
  go_ret
  exact ⟨rfl, below_two _ _ _⟩
set_option maxRecDepth 100000 in
theorem peCompare_30 (g1 g2 : Nat) (w : World) : Calls Tryz.prog 126 #[.agg #[.pointer none, .pointer none, .pointer none, .pointer (some ⟨g1, 0, none⟩)], .agg #[.pointer (some ⟨g2, 0, none⟩), .pointer none, .pointer none, .pointer none]] w (CmpPost (1) w) := by
  go_enter Tryz.func126, Tryz.ntmps126
  go_wp2
  go_ret
  exact ⟨rfl, below_two _ _ _⟩
set_option maxRecDepth 100000 in
theorem peCompare_31 (g1 g2 : Nat) (w : World) : Calls Tryz.prog 126 #[.agg #[.pointer none, .pointer none, .pointer none, .pointer (some ⟨g1, 0, none⟩)], .agg #[.pointer none, .pointer (some ⟨g2, 0, none⟩), .pointer none, .pointer none]] w (CmpPost (1) w) := by
  go_enter Tryz.func126, Tryz.ntmps126
  go_wp2
  go_ret
  exact ⟨rfl, below_two _ _ _⟩
set_option maxRecDepth 100000 in
theorem peCompare_32 (g1 g2 : Nat) (w : World) : Calls Tryz.prog 126 #[.agg #[.pointer none, .pointer none, .pointer none, .pointer (some ⟨g1, 0, none⟩)], .agg #[.pointer none, .pointer none, .pointer (some ⟨g2, 0, none⟩), .pointer none]] w (CmpPost (1) w) := by
  go_enter Tryz.func126, Tryz.ntmps126
  go_wp2
  go_ret
  exact ⟨rfl, below_two _ _ _⟩
set_option maxRecDepth 100000 in
set_option maxHeartbeats 1000000 in
theorem peCompare_00 (s1 s2 : ByteArray) (g1 g2 : Nat) (w : World) (l1 : g1 < w.heap.size) (l2 : g2 < w.heap.size) (b1 : Bk w g1 9 #[.string s1]) (b2 : Bk w g2 9 #[.string s2]) :
    Calls Tryz.prog 126 #[.agg #[.pointer (some ⟨g1, 0, none⟩), .pointer none, .pointer none, .pointer none], .agg #[.pointer (some ⟨g2, 0, none⟩), .pointer none, .pointer none, .pointer none]] w (CmpPost (cmpS s1 s2) w) := by
  have hsc := fun W => stringsCompare_same s1 s2 W
  generalize cmpS s1 s2 = d at *
  have Hsc := hide hsc
  clear hsc
  go_enter Tryz.func126, Tryz.ntmps126
  go_wp2_with fail
  have st := PE2.made w (.pointer (some ⟨g1, 0, none⟩)) (.pointer none) (.pointer none) (.pointer none) (.pointer (some ⟨g2, 0, none⟩)) (.pointer none) (.pointer none) (.pointer none)
  have u0 := b1.cell 0
  have v0 := b2.cell 0
  simp at u0 v0
  rw [← (bcell st.below).1 _ _ l1] at u0
  rw [← (bcell st.below).1 _ _ l2] at v0
  generalize World.alloc (World.alloc w _) _ = W at st u0 v0 ⊢
  obtain ⟨p0, p1, p2, p3, q0, q1, q2, q3⟩ := st.cells
  have St := hide st.below
  clear b1 b2 st
  go_wp2_with fail
  go_quiet ((go_at_call 166; exact Calls.quiet_of_same (Hsc.out _)))
  go_wp2
  go_ret
  exact ⟨rfl, below_drewN St.out _⟩
set_option maxRecDepth 100000 in
set_option maxHeartbeats 1000000 in
theorem peCompare_11 (L1 L2 : List (ByteArray × T)) (A1 A2 : Option Addr) (c1 c2 : Nat) (g1 g2 : Nat) (w : World) (h1 : FLAt (Old w) w L1 A1 c1) (h2 : FLAt (Old w) w L2 A2 c2) (l1 : g1 < w.heap.size) (l2 : g2 < w.heap.size) (b1 : Bk w g1 169 #[.slice A1 L1.length c1]) (b2 : Bk w g2 169 #[.slice A2 L2.length c2]) :
    Calls Tryz.prog 126 #[.agg #[.pointer none, .pointer (some ⟨g1, 0, none⟩), .pointer none, .pointer none], .agg #[.pointer none, .pointer (some ⟨g2, 0, none⟩), .pointer none, .pointer none]] w (CmpPost (T.cmpM L1 L2) w) := by
  have hq := fun (W : World) (hb : Below w.heap.size w W) => flCompare_calls (h1.at_ hb) (h2.at_ hb)
  obtain ⟨d, hd⟩ : ∃ d, T.cmpM L1 L2 = d := ⟨_, rfl⟩
  rw [hd] at hq ⊢
  have Hq := hide hq
  clear hq hd h1 h2
  go_enter Tryz.func126, Tryz.ntmps126
  go_wp2_with fail
  have st := PE2.made w (.pointer none) (.pointer (some ⟨g1, 0, none⟩)) (.pointer none) (.pointer none) (.pointer none) (.pointer (some ⟨g2, 0, none⟩)) (.pointer none) (.pointer none)
  have u0 := b1.cell 0
  have v0 := b2.cell 0
  simp at u0 v0
  rw [← (bcell st.below).1 _ _ l1] at u0
  rw [← (bcell st.below).1 _ _ l2] at v0
  have hzs := st.below.size
  generalize World.alloc (World.alloc w _) _ = W at st u0 v0 hzs ⊢
  have hzz : PES w (.pointer none) (.pointer (some ⟨g1, 0, none⟩)) (.pointer none) (.pointer none) (.pointer none) (.pointer (some ⟨g2, 0, none⟩)) (.pointer none) (.pointer none) g1 g2 (.slice A1 L1.length c1) (.slice A2 L2.length c2) W := ⟨st, u0, v0⟩
  obtain ⟨p0, p1, p2, p3, q0, q1, q2, q3⟩ := st.cells
  have Hz := hide hzz
  clear b1 b2 st u0 v0 hzz
  go_wp2_with fail
  clear p0 p1 p2 p3 q0 q1 q2 q3
  have hS0 := Hz.out.call (below_drew (Below.refl W.heap.size W)) (by omega) (by omega)
  obtain ⟨S, hS⟩ : ∃ S, PES w (.pointer none) (.pointer (some ⟨g1, 0, none⟩)) (.pointer none) (.pointer none) (.pointer none) (.pointer (some ⟨g2, 0, none⟩)) (.pointer none) (.pointer none) g1 g2 (.slice A1 L1.length c1) (.slice A2 L2.length c2) = S := ⟨_, rfl⟩
  rw [hS] at hS0
  refine wp_region_head 9 S (by rfl) (by kernel_rfl) ?_
  refine HT.take 0 (v := ?_) rfl (by kernel_rfl) (fun _ _ _ h => h) (Or.inl ⟨by rfl, ?_⟩) (by assumption) ?_
  rotate_left
  · intro W hSw; rw [← hS] at hSw; obtain ⟨hst, s8, s9⟩ := hSw; obtain ⟨s0, s1, s2, s3, s4, s5, s6, s7⟩ := hst.cells; clear hst; go_simp; with_reducible rfl
  simp only [Act.put, List.setIfInBounds_toArray, List.set_cons_zero, List.set_cons_succ]
  refine HT.take 1 (v := ?_) rfl (by kernel_rfl) (fun _ _ _ h => h) (Or.inl ⟨by rfl, ?_⟩) (by assumption) ?_
  rotate_left
  · intro W hSw; rw [← hS] at hSw; obtain ⟨hst, s8, s9⟩ := hSw; obtain ⟨s0, s1, s2, s3, s4, s5, s6, s7⟩ := hst.cells; clear hst; go_simp; with_reducible rfl
  simp only [Act.put, List.setIfInBounds_toArray, List.set_cons_zero, List.set_cons_succ]
  refine HT.take 2 (v := ?_) rfl (by kernel_rfl) (fun _ _ _ h => h) (Or.inl ⟨by rfl, ?_⟩) (by assumption) ?_
  rotate_left
  · intro W hSw; rw [← hS] at hSw; obtain ⟨hst, s8, s9⟩ := hSw; obtain ⟨s0, s1, s2, s3, s4, s5, s6, s7⟩ := hst.cells; clear hst; go_simp; with_reducible rfl
  simp only [Act.put, List.setIfInBounds_toArray, List.set_cons_zero, List.set_cons_succ]
  refine HT.take 3 (v := ?_) rfl (by kernel_rfl) (fun _ _ _ h => h) (Or.inl ⟨by rfl, ?_⟩) (by assumption) ?_
  rotate_left
  · intro W hSw; rw [← hS] at hSw; obtain ⟨hst, s8, s9⟩ := hSw; obtain ⟨s0, s1, s2, s3, s4, s5, s6, s7⟩ := hst.cells; clear hst; go_simp; with_reducible rfl
  simp only [Act.put, List.setIfInBounds_toArray, List.set_cons_zero, List.set_cons_succ]
  refine HT.take 4 (v := ?_) rfl (by kernel_rfl) (fun _ _ _ h => h) (Or.inl ⟨by rfl, ?_⟩) (by assumption) ?_
  rotate_left
  · intro W hSw; rw [← hS] at hSw; obtain ⟨hst, s8, s9⟩ := hSw; obtain ⟨s0, s1, s2, s3, s4, s5, s6, s7⟩ := hst.cells; clear hst; go_simp; with_reducible rfl
  simp only [Act.put, List.setIfInBounds_toArray, List.set_cons_zero, List.set_cons_succ]
  refine HT.take 5 (v := ?_) rfl (by kernel_rfl) (fun _ _ _ h => h) (Or.inl ⟨by rfl, ?_⟩) (by assumption) ?_
  rotate_left
  · intro W hSw; rw [← hS] at hSw; obtain ⟨hst, s8, s9⟩ := hSw; obtain ⟨s0, s1, s2, s3, s4, s5, s6, s7⟩ := hst.cells; clear hst; go_simp; with_reducible rfl
  simp only [Act.put, List.setIfInBounds_toArray, List.set_cons_zero, List.set_cons_succ]
  refine HT.take 6 (v := ?_) rfl (by kernel_rfl) (fun _ _ _ h => h) (Or.inl ⟨by rfl, ?_⟩) (by assumption) ?_
  rotate_left
  · intro W hSw; rw [← hS] at hSw; obtain ⟨hst, s8, s9⟩ := hSw; obtain ⟨s0, s1, s2, s3, s4, s5, s6, s7⟩ := hst.cells; clear hst; go_simp; with_reducible rfl
  simp only [Act.put, List.setIfInBounds_toArray, List.set_cons_zero, List.set_cons_succ]
  refine HT.take 7 (v := ?_) rfl (by kernel_rfl) (fun _ _ _ h => h) (Or.inl ⟨by rfl, ?_⟩) (by assumption) ?_
  rotate_left
  · intro W hSw; rw [← hS] at hSw; obtain ⟨hst, s8, s9⟩ := hSw; obtain ⟨s0, s1, s2, s3, s4, s5, s6, s7⟩ := hst.cells; clear hst; go_simp; with_reducible rfl
  simp only [Act.put, List.setIfInBounds_toArray, List.set_cons_zero, List.set_cons_succ]
  refine HT.one 8 rfl (by kernel_rfl) (by rfl) (fun K hK => ?_)
  go_simp
  refine (Hq.out W.drew (below_drew Hz.out.st.below)).mono ?_
  rintro e w9 ⟨rfl, hb9⟩
  have hb9' : Below W.heap.size W w9 := below_drew' hb9
  go_simp
  refine hK.out _ _ (by rw [← hS]; exact Hz.out.call hb9' (by omega) (by omega)) ?_
  clear hK
  refine HT.done (by kernel_rfl) ?_
  simp only [List.drop_succ_cons, List.drop_zero]
  have Hb := hide (Hz.out.st.below.trans (hb9'.mono Hz.out.st.below.size))
  clear hS0 hS hb9 hb9'
  go_wp2
  go_ret
  exact ⟨rfl, Hb.out⟩
set_option maxRecDepth 100000 in
set_option maxHeartbeats 1000000 in
theorem peCompare_22 (t1 t2 : T) (q1 q2 : Addr) (g1 g2 : Nat) (w : World) (h1 : ValAt (Old w) w t1 (.iface 249 (.pointer (some q1)))) (h2 : ValAt (Old w) w t2 (.iface 249 (.pointer (some q2)))) (l1 : g1 < w.heap.size) (l2 : g2 < w.heap.size) (b1 : Bk w g1 99 #[.iface 249 (.pointer (some q1))]) (b2 : Bk w g2 99 #[.iface 249 (.pointer (some q2))]) :
    Calls Tryz.prog 126 #[.agg #[.pointer none, .pointer none, .pointer (some ⟨g1, 0, none⟩), .pointer none], .agg #[.pointer none, .pointer none, .pointer (some ⟨g2, 0, none⟩), .pointer none]] w (CmpPost (T.cmp t1 t2) w) := by
  have hq := fun (W : World) (hb : Below w.heap.size w W) => compareV_calls (h1.at_ hb) (h2.at_ hb)
  obtain ⟨d, hd⟩ : ∃ d, T.cmp t1 t2 = d := ⟨_, rfl⟩
  rw [hd] at hq ⊢
  have Hq := hide hq
  clear hq hd h1 h2
  go_enter Tryz.func126, Tryz.ntmps126
  go_wp2_with fail
  have st := PE2.made w (.pointer none) (.pointer none) (.pointer (some ⟨g1, 0, none⟩)) (.pointer none) (.pointer none) (.pointer none) (.pointer (some ⟨g2, 0, none⟩)) (.pointer none)
  have u0 := b1.cell 0
  have v0 := b2.cell 0
  simp at u0 v0
  rw [← (bcell st.below).1 _ _ l1] at u0
  rw [← (bcell st.below).1 _ _ l2] at v0
  have hzs := st.below.size
  generalize World.alloc (World.alloc w _) _ = W at st u0 v0 hzs ⊢
  have hzz : PES w (.pointer none) (.pointer none) (.pointer (some ⟨g1, 0, none⟩)) (.pointer none) (.pointer none) (.pointer none) (.pointer (some ⟨g2, 0, none⟩)) (.pointer none) g1 g2 (.iface 249 (.pointer (some q1))) (.iface 249 (.pointer (some q2))) W := ⟨st, u0, v0⟩
  obtain ⟨p0, p1, p2, p3, q0, q1, q2, q3⟩ := st.cells
  have Hz := hide hzz
  clear b1 b2 st u0 v0 hzz
  go_wp2_with fail
  clear p0 p1 p2 p3 q0 q1 q2 q3
  have hS0 := Hz.out.call (below_drew (Below.refl W.heap.size W)) (by omega) (by omega)
  obtain ⟨S, hS⟩ : ∃ S, PES w (.pointer none) (.pointer none) (.pointer (some ⟨g1, 0, none⟩)) (.pointer none) (.pointer none) (.pointer none) (.pointer (some ⟨g2, 0, none⟩)) (.pointer none) g1 g2 (.iface 249 (.pointer (some q1))) (.iface 249 (.pointer (some q2))) = S := ⟨_, rfl⟩
  rw [hS] at hS0
  refine wp_region_head 9 S (by rfl) (by kernel_rfl) ?_
  refine HT.take 0 (v := ?_) rfl (by kernel_rfl) (fun _ _ _ h => h) (Or.inl ⟨by rfl, ?_⟩) (by assumption) ?_
  rotate_left
  · intro W hSw; rw [← hS] at hSw; obtain ⟨hst, s8, s9⟩ := hSw; obtain ⟨s0, s1, s2, s3, s4, s5, s6, s7⟩ := hst.cells; clear hst; go_simp; with_reducible rfl
  simp only [Act.put, List.setIfInBounds_toArray, List.set_cons_zero, List.set_cons_succ]
  refine HT.take 1 (v := ?_) rfl (by kernel_rfl) (fun _ _ _ h => h) (Or.inl ⟨by rfl, ?_⟩) (by assumption) ?_
  rotate_left
  · intro W hSw; rw [← hS] at hSw; obtain ⟨hst, s8, s9⟩ := hSw; obtain ⟨s0, s1, s2, s3, s4, s5, s6, s7⟩ := hst.cells; clear hst; go_simp; with_reducible rfl
  simp only [Act.put, List.setIfInBounds_toArray, List.set_cons_zero, List.set_cons_succ]
  refine HT.take 2 (v := ?_) rfl (by kernel_rfl) (fun _ _ _ h => h) (Or.inl ⟨by rfl, ?_⟩) (by assumption) ?_
  rotate_left
  · intro W hSw; rw [← hS] at hSw; obtain ⟨hst, s8, s9⟩ := hSw; obtain ⟨s0, s1, s2, s3, s4, s5, s6, s7⟩ := hst.cells; clear hst; go_simp; with_reducible rfl
  simp only [Act.put, List.setIfInBounds_toArray, List.set_cons_zero, List.set_cons_succ]
  refine HT.take 3 (v := ?_) rfl (by kernel_rfl) (fun _ _ _ h => h) (Or.inl ⟨by rfl, ?_⟩) (by assumption) ?_
  rotate_left
  · intro W hSw; rw [← hS] at hSw; obtain ⟨hst, s8, s9⟩ := hSw; obtain ⟨s0, s1, s2, s3, s4, s5, s6, s7⟩ := hst.cells; clear hst; go_simp; with_reducible rfl
  simp only [Act.put, List.setIfInBounds_toArray, List.set_cons_zero, List.set_cons_succ]
  refine HT.take 4 (v := ?_) rfl (by kernel_rfl) (fun _ _ _ h => h) (Or.inl ⟨by rfl, ?_⟩) (by assumption) ?_
  rotate_left
  · intro W hSw; rw [← hS] at hSw; obtain ⟨hst, s8, s9⟩ := hSw; obtain ⟨s0, s1, s2, s3, s4, s5, s6, s7⟩ := hst.cells; clear hst; go_simp; with_reducible rfl
  simp only [Act.put, List.setIfInBounds_toArray, List.set_cons_zero, List.set_cons_succ]
  refine HT.take 5 (v := ?_) rfl (by kernel_rfl) (fun _ _ _ h => h) (Or.inl ⟨by rfl, ?_⟩) (by assumption) ?_
  rotate_left
  · intro W hSw; rw [← hS] at hSw; obtain ⟨hst, s8, s9⟩ := hSw; obtain ⟨s0, s1, s2, s3, s4, s5, s6, s7⟩ := hst.cells; clear hst; go_simp; with_reducible rfl
  simp only [Act.put, List.setIfInBounds_toArray, List.set_cons_zero, List.set_cons_succ]
  refine HT.take 6 (v := ?_) rfl (by kernel_rfl) (fun _ _ _ h => h) (Or.inl ⟨by rfl, ?_⟩) (by assumption) ?_
  rotate_left
  · intro W hSw; rw [← hS] at hSw; obtain ⟨hst, s8, s9⟩ := hSw; obtain ⟨s0, s1, s2, s3, s4, s5, s6, s7⟩ := hst.cells; clear hst; go_simp; with_reducible rfl
  simp only [Act.put, List.setIfInBounds_toArray, List.set_cons_zero, List.set_cons_succ]
  refine HT.take 7 (v := ?_) rfl (by kernel_rfl) (fun _ _ _ h => h) (Or.inl ⟨by rfl, ?_⟩) (by assumption) ?_
  rotate_left
  · intro W hSw; rw [← hS] at hSw; obtain ⟨hst, s8, s9⟩ := hSw; obtain ⟨s0, s1, s2, s3, s4, s5, s6, s7⟩ := hst.cells; clear hst; go_simp; with_reducible rfl
  simp only [Act.put, List.setIfInBounds_toArray, List.set_cons_zero, List.set_cons_succ]
  refine HT.one 8 rfl (by kernel_rfl) (by rfl) (fun K hK => ?_)
  go_simp
  refine (Hq.out W.drew (below_drew Hz.out.st.below)).mono ?_
  rintro e w9 ⟨rfl, hb9⟩
  have hb9' : Below W.heap.size W w9 := below_drew' hb9
  go_simp
  refine hK.out _ _ (by rw [← hS]; exact Hz.out.call hb9' (by omega) (by omega)) ?_
  clear hK
  refine HT.done (by kernel_rfl) ?_
  simp only [List.drop_succ_cons, List.drop_zero]
  have Hb := hide (Hz.out.st.below.trans (hb9'.mono Hz.out.st.below.size))
  clear hS0 hS hb9 hb9'
  go_wp2
  go_ret
  exact ⟨rfl, Hb.out⟩
set_option maxRecDepth 100000 in
set_option maxHeartbeats 1000000 in
theorem peCompare_33 (n1 n2 : Int) (g1 g2 : Nat) (w : World) (o1 : okInt n1) (o2 : okInt n2) (l1 : g1 < w.heap.size) (l2 : g2 < w.heap.size) (b1 : Bk w g1 3 #[.int .i64 n1]) (b2 : Bk w g2 3 #[.int .i64 n2]) :
    Calls Tryz.prog 126 #[.agg #[.pointer none, .pointer none, .pointer none, .pointer (some ⟨g1, 0, none⟩)], .agg #[.pointer none, .pointer none, .pointer none, .pointer (some ⟨g2, 0, none⟩)]] w (CmpPost (cmpI n1 n2) w) := by
  have x1 := o1.1
  have x2 := o1.2
  have x3 := o2.1
  have x4 := o2.2
  clear o1 o2
  by_cases hlt : n1 < n2
  · rw [show cmpI n1 n2 = -1 by unfold cmpI; rw [if_pos hlt]]
    go_enter Tryz.func126, Tryz.ntmps126
    go_wp2_with fail
    have st := PE2.made w (.pointer none) (.pointer none) (.pointer none) (.pointer (some ⟨g1, 0, none⟩)) (.pointer none) (.pointer none) (.pointer none) (.pointer (some ⟨g2, 0, none⟩))
    have u0 := b1.cell 0
    have v0 := b2.cell 0
    simp at u0 v0
    rw [← (bcell st.below).1 _ _ l1] at u0
    rw [← (bcell st.below).1 _ _ l2] at v0
    generalize World.alloc (World.alloc w _) _ = W at st u0 v0 ⊢
    obtain ⟨p0, p1, p2, p3, q0, q1, q2, q3⟩ := st.cells
    have St := hide st.below
    clear b1 b2 st
    go_wp2_with fail
    go_quiet (fail)
    go_wp2
    go_ret
    exact ⟨rfl, below_drewN St.out _⟩
  by_cases he : n1 = n2
  · subst he
    rw [show cmpI n1 n1 = 0 from cmpI_zero.2 rfl]
    go_enter Tryz.func126, Tryz.ntmps126
    go_wp2_with fail
    have st := PE2.made w (.pointer none) (.pointer none) (.pointer none) (.pointer (some ⟨g1, 0, none⟩)) (.pointer none) (.pointer none) (.pointer none) (.pointer (some ⟨g2, 0, none⟩))
    have u0 := b1.cell 0
    have v0 := b2.cell 0
    simp at u0 v0
    rw [← (bcell st.below).1 _ _ l1] at u0
    rw [← (bcell st.below).1 _ _ l2] at v0
    generalize World.alloc (World.alloc w _) _ = W at st u0 v0 ⊢
    obtain ⟨p0, p1, p2, p3, q0, q1, q2, q3⟩ := st.cells
    have St := hide st.below
    clear b1 b2 st
    go_wp2_with fail
    go_quiet (fail)
    go_wp2_with fail
    go_quiet (fail)
    go_wp2
    go_ret
    exact ⟨rfl, below_drewN (below_drewN St.out _) _⟩
  · rw [show cmpI n1 n2 = 1 by unfold cmpI; rw [if_neg hlt, if_pos (by omega)]]
    have he' : (n1 == n2) = false := by simpa using he
    go_enter Tryz.func126, Tryz.ntmps126
    go_wp2_with fail
    have st := PE2.made w (.pointer none) (.pointer none) (.pointer none) (.pointer (some ⟨g1, 0, none⟩)) (.pointer none) (.pointer none) (.pointer none) (.pointer (some ⟨g2, 0, none⟩))
    have u0 := b1.cell 0
    have v0 := b2.cell 0
    simp at u0 v0
    rw [← (bcell st.below).1 _ _ l1] at u0
    rw [← (bcell st.below).1 _ _ l2] at v0
    generalize World.alloc (World.alloc w _) _ = W at st u0 v0 ⊢
    obtain ⟨p0, p1, p2, p3, q0, q1, q2, q3⟩ := st.cells
    have St := hide st.below
    clear b1 b2 st
    go_wp2_with fail
    go_quiet (fail)
    go_wp2_with fail
    go_quiet (fail)
    go_wp2
    go_ret
    exact ⟨rfl, below_drewN (below_drewN St.out _) _⟩

theorem peCompare_calls {e1 e2 : E} {cs1 cs2 : List Value} {w : World} (h1 : PEAt (Old w) w e1 cs1) (h2 : PEAt (Old w) w e2 cs2) : Calls Tryz.prog 126 #[.agg cs1.toArray, .agg cs2.toArray] w (CmpPost (E.cmp e1 e2) w) := by
  cases h1
  case field =>
    rename_i s1 g1 xs xF xB
    cases h2
    case field =>
      rename_i s2 g2 ys yF yB
      exact peCompare_00 _ _ _ _ w xF yF xB yB
    case key => exact peCompare_01 _ _ w
    case val => exact peCompare_02 _ _ w
    case idx => exact peCompare_03 _ _ w
  case key =>
    rename_i L1 g1 A1 c1 xF xB xL
    cases h2
    case field => exact peCompare_10 _ _ w
    case key =>
      rename_i L2 g2 A2 c2 yF yB yL
      exact peCompare_11 _ _ _ _ _ _ _ _ w xL yL xF yF xB yB
    case val => exact peCompare_12 _ _ w
    case idx => exact peCompare_13 _ _ w
  case val =>
    rename_i t1 g1 q1 xF xB xV
    cases h2
    case field => exact peCompare_20 _ _ w
    case key => exact peCompare_21 _ _ w
    case val =>
      rename_i t2 g2 q2 yF yB yV
      exact peCompare_22 _ _ _ _ _ _ w xV yV xF yF xB yB
    case idx => exact peCompare_23 _ _ w
  case idx =>
    rename_i n1 g1 xo xF xB
    cases h2
    case field => exact peCompare_30 _ _ w
    case key => exact peCompare_31 _ _ w
    case val => exact peCompare_32 _ _ w
    case idx =>
      rename_i n2 g2 yo yF yB
      exact peCompare_33 _ _ _ _ w xo yo xF yF xB yB
end Go.Proofs.YtajeghkjppkhcaaGreat

/-!
  impl.CompareElems, impl.EqualElems.
-/

namespace Go.Proofs.YtajeghkjppkhcaaGreat
open Go.RowKit
attribute [local go_sem] run_store_float

/-- a step's struct in a block -/
theorem Bk.cells11 {W : World} {g : Nat} {t : TypeId} {x0 x1 x2 x3 x4 x5 x6 x7 x8 x9 x10 : Value} (h : Bk W g t #[x0, x1, x2, x3, x4, x5, x6, x7, x8, x9, x10]) : W.cell? ⟨g, 0, none⟩ = some x0 ∧ W.cell? ⟨g, 1, none⟩ = some x1 ∧ W.cell? ⟨g, 2, none⟩ = some x2 ∧ W.cell? ⟨g, 3, none⟩ = some x3 ∧ W.cell? ⟨g, 4, none⟩ = some x4 ∧ W.cell? ⟨g, 5, none⟩ = some x5 ∧ W.cell? ⟨g, 6, none⟩ = some x6 ∧ W.cell? ⟨g, 7, none⟩ = some x7 ∧ W.cell? ⟨g, 8, none⟩ = some x8 ∧ W.cell? ⟨g, 9, none⟩ = some x9 ∧ W.cell? ⟨g, 10, none⟩ = some x10 := ⟨h.cell 0, h.cell 1, h.cell 2, h.cell 3, h.cell 4, h.cell 5, h.cell 6, h.cell 7, h.cell 8, h.cell 9, h.cell 10⟩

/-- two steps' structs, each a block of its own -/
structure BB (w : World) (t : TypeId) (a b : Array Value) (W : World) : Prop where
  below : Below w.heap.size w W
  a : Bk W w.heap.size t a
  b : Bk W (w.heap.size + 1) t b
theorem BB.call {w W W' : World} {t : TypeId} {a b : Array Value} (h : BB w t a b W) (hb : Below W.heap.size W W') : BB w t a b W' :=
  ⟨h.below.trans (hb.mono h.below.size), h.a.below hb h.a.lt, h.b.below hb h.b.lt⟩
theorem BB.made (w : World) (t : TypeId) (a b : Array Value) : BB w t a b ((w.alloc (.cells a t)).alloc (.cells b t)) := by
  refine ⟨below_two w _ _, (Bk.new _ _ _).alloc _, ?_⟩
  have := Bk.new (w.alloc (.cells a t)) t b
  simpa only [World.size_alloc] using this

end Go.Proofs.YtajeghkjppkhcaaGreat
