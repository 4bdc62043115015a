/- Parts: PathP, Insert, Search, EMapP. -/
import Derived.Test.YtbicoknghdgahaaGreatKA10
set_option linter.unusedVariables false
set_option linter.unusedSimpArgs false
namespace Go.Proofs.YtbicoknghdgahaaGreat

section
variable {α : Type} {c : α → α → Int} {Ok : α → Prop} (O : TOrd c Ok)

include O
theorem hasC_iff {e : α} {l : List α} (he : Ok e) (hl : ∀ x ∈ l, Ok x) (hs : SortC c l) : hasC c e l = true ↔ HasC c l e := by
 unfold HasC
 induction l with
 | nil => simp [hasC]
 | cons x l ih =>
  obtain ⟨h1, h2⟩ := List.pairwise_cons.1 hs
  have hx := hl x (by simp)
  have hl' : ∀ y ∈ l, Ok y := fun y hy => hl y (by simp [hy])
  have ih := ih hl' h2
  unfold hasC at ih ⊢
  simp only [cntC]
  by_cases hp : c x e < 0
  ·rw [if_pos hp]
   simp only [List.getElem?_cons_succ]
   rw [ih]
   constructor
   ·rintro ⟨a, h3, h4⟩; exact ⟨a, by simp [h3], h4⟩
   ·rintro ⟨a, h3, h4⟩
    rcases List.mem_cons.1 h3 with rfl | h3
    ·omega
    ·exact ⟨a, h3, h4⟩
  ·rw [if_neg hp]
   simp only [List.getElem?_cons_zero, decide_eq_true_eq]
   constructor
   ·intro h; exact ⟨x, by simp, h⟩
   ·rintro ⟨a, h3, h4⟩
    rcases List.mem_cons.1 h3 with rfl | h3
    ·exact h4
    ·have := O.lt_le hx (hl' a h3) he (h1 a h3) (by omega)
     omega
end

end Go.Proofs.YtbicoknghdgahaaGreat

namespace Go.Proofs.YtbicoknghdgahaaGreat
open Go.RowKit
attribute [local go_sem] run_store_float

set_option maxRecDepth 100000 in
set_option maxHeartbeats 4000000 in
theorem insertV_end {n vb : Nat} {s : Value} {xs vs : List Value} {w : World} (hown : w.ownsRow 0 299 5 s n xs) (hv : Bk w vb 299 vs.toArray) (hvl : vs.length = 5) (h1 : ∀ u ∈ vs, u.oneCell' = true) (hn : (n + 1) * 48 ≤ 140737488355328) :
  Calls Tryz.prog 170 #[s, .int .i64 (n : Int), .slice (some ⟨vb, 0, none⟩) 1 1] w (InsPost w 299 5 n s (laid 5 n vs xs)) := by
 obtain ⟨i0, hi0, hz0, hs0, hb0⟩ : ∃ i, Tryz.prog.info? 299 = some i ∧ (∃ z, i.zero = some z ∧ z.cells.size = 5) ∧ i.size = 5 ∧ i.bytes = 48 := by
  refine ⟨_, rfl, ⟨_, rfl, by kernel_rfl⟩, by kernel_rfl, by kernel_rfl⟩
 obtain ⟨z, hz, hzc⟩ := hz0
 obtain ⟨v', w', q1, q2, q3, q5⟩ := run_append_row (P := Tryz.prog) w 0 97 97 299 i0 z 5 48 Tryz.underlying97 hi0 hz hs0 hb0 hzc (by omega) s n xs hown (fun _ => True) (some ⟨vb, 0, none⟩) 1 1 vs (Row.of_bki hv (by simp [hvl]) trivial) h1 hn (by omega) (Nat.zero_le _)
 rw [← run_append_types 97 96 299 299 97 Tryz.underlying97 Tryz.underlying96] at q1
 have hxl : xs.length = n * 5 := hown.1
 have hlaid : laid 5 n vs xs = xs ++ vs := by
  unfold laid
  rw [List.take_of_length_le (by omega), List.drop_eq_nil_of_le (by omega), List.append_nil]
 rw [hlaid]
 have Hfin := hide (And.intro q2 (And.intro q3 q5))
 obtain ⟨A, c, rfl, hc1, hc2⟩ := own_form hown
 have hc2' : c ≤ 9223372036854775807 := hc2
 have hn' : n ≤ 4398046511104 := by omega
 clear hown hv hvl h1 hn q2 q3 q5 hxl hlaid hi0 hz hs0 hb0 hzc hc2
 by_cases hcn : c = n
 ·subst hcn
  go_enter Tryz.func170, Tryz.ntmps170
  go_wp2_with (at_builtin; refine Lib.wpList_append_run _ rfl _ _ _ _ rfl _ _ rfl rfl _ _ q1 ?_)
  go_ret
  exact ⟨v', rfl, Hfin.out.1, Hfin.out.2.1, Hfin.out.2.2.imp id fun e => ⟨_, e, Nat.le_refl _⟩⟩
 ·go_enter Tryz.func170, Tryz.ntmps170
  go_wp2_with (at_builtin; refine Lib.wpList_append_run _ rfl _ _ _ _ rfl _ _ rfl rfl _ _ q1 ?_)
  go_ret
  exact ⟨v', rfl, Hfin.out.1, Hfin.out.2.1, Hfin.out.2.2.imp id fun e => ⟨_, e, Nat.le_refl _⟩⟩

set_option maxRecDepth 100000 in
set_option maxHeartbeats 4000000 in
theorem insertV_shift {n i vb g c : Nat} {xs vs : List Value} {cur : Array Value} {w : World} (hg : w.heap[g]? = some (.cells cur 299 (0, 0))) (hnc : n + 1 ≤ c) (hcm : c ≤ maxLen) (hcs : cur.size = c * 5) (hct : cur.toList.take (n * 5) = xs) (hxl : xs.length = n * 5) (hi : i < n)
  (hv : Bk w vb 299 vs.toArray) (hvl : vs.length = 5) (h1 : ∀ u ∈ vs, u.oneCell' = true) (h2 : ∀ u ∈ xs, u.oneCell' = true) (hvb : vb ≠ g) :
  Calls Tryz.prog 170 #[.slice (some ⟨g, 0, none⟩) n c, .int .i64 (i : Int), .slice (some ⟨vb, 0, none⟩) 1 1] w (InsPost w 299 5 n (.slice (some ⟨g, 0, none⟩) n c) (laid 5 i vs xs)) := by
 have hcm' : c ≤ 9223372036854775807 := hcm
 have hsz : (Tryz.prog.info? 299).map (·.size) = some 5 := by kernel_rfl
 have hdl : (xs.drop (i * 5)).length = (n - i) * 5 := by rw [List.length_drop, hxl]; omega
 have hck : (n + 1) * 5 ≤ c * 5 := Nat.mul_le_mul_right _ hnc
 -- the overlap
 have hov : ∀ lb cb, (callFunc 206 #[.slice (some ⟨vb, 0, none⟩) 1 1, .slice (some ⟨g, (i + 1) * 5, none⟩) lb cb]).run Tryz.prog w = .ok (.value (.bool false)) w := fun lb cb => by
  rw [run_callFunc_extern Tryz.func206 (by kernel_rfl) (by kernel_rfl) (by kernel_rfl) (e := Extern.SlicesOverlaps.overlaps #[96, 96] #[4]) (by kernel_rfl),
   Lib.run_overlaps_apart w 96 4 299 Tryz.underlying96 5 (fun w => by kernel_rfl) ⟨vb, 0, none⟩ ⟨g, (i + 1) * 5, none⟩ 1 1 lb cb hvb 299 299 5 (c * 5) (by unfold World.shape?; rw [show w.heap[vb]? = _ from hv]; simp [hvl]) (by unfold World.shape?; rw [hg]; simp [hcs]) (by omega) (hv.free _) (hv.free _)]
  rfl
 -- the two copies
 obtain ⟨cur1, hcur1⟩ : ∃ cur1 : Array Value, (cur.toList.take ((i + 1) * 5) ++ xs.drop (i * 5) ++ cur.toList.drop ((i + 1) * 5 + (xs.drop (i * 5)).length)).toArray = cur1 := ⟨_, rfl⟩
 have hcur1l : cur1.size = c * 5 := by rw [← hcur1]; simp [hdl, hcs]; omega
 have hcp1 : ∀ ty dc sc, (Builtin.copy_ #[97, 97] ty #[.slice (some ⟨g, (i + 1) * 5, none⟩) (n - i) dc, .slice (some ⟨g, i * 5, none⟩) (n + 1 - i) sc]).run Tryz.prog w.drew = .ok (goInt ((n - i : Nat) : Int)) (w.drew.setRow g cur1) := fun ty dc sc => by
  have h := run_copy_rowN (P := Tryz.prog) w.drew 97 97 ty 299 5 g ((i + 1) * 5) (n - i) dc ⟨g, i * 5, none⟩ (n + 1 - i) sc cur 299 (xs.drop (i * 5)) Tryz.underlying97 hsz hg
   (by rw [hdl, show Nat.min (n + 1 - i) (n - i) = n - i from Nat.min_eq_right (by omega)])
   (fun j v hj => by
    rw [List.getElem?_drop] at hj
    rw [Addr.add_lit]
    show w.cell? _ = _
    unfold World.cell?
    rw [hg]
    simp only
    have hjl := (List.getElem?_eq_some_iff.1 hj).1
    rw [← hct, List.getElem?_take] at hj
    split at hj
    ·simpa using hj
    ·cases hj)
   (by rw [hdl, hcs]; omega) (fun u hu => h2 u (List.mem_of_mem_drop hu))
  rw [hcur1, show Nat.min (n + 1 - i) (n - i) = n - i from Nat.min_eq_right (by omega)] at h
  exact h
 obtain ⟨W1, hW1⟩ : ∃ W1, w.drew.setRow g cur1 = W1 := ⟨_, rfl⟩
 rw [hW1] at hcp1
 have hg1 : W1.heap[g]? = some (.cells cur1 299 (0, 0)) := by rw [← hW1]; exact setRow_heap w.drew g cur _ 299 (0, 0) hg
 have hgr1 : w.grownBy W1 (some g) := by rw [← hW1]; exact grown_setRow (t := 299) (grown_drew (World.grownBy.refl w.drew _))
 have hv1 : Bk W1 vb 299 vs.toArray := hv.grown hgr1 (fun e => hvb (Option.some.inj e))
 obtain ⟨cur2, hcur2⟩ : ∃ cur2 : Array Value, (cur1.toList.take (i * 5) ++ vs ++ cur1.toList.drop (i * 5 + vs.length)).toArray = cur2 := ⟨_, rfl⟩
 have hcur2l : cur2.size = c * 5 := by rw [← hcur2]; simp [hvl, hcur1l]; omega
 have hcp2 : ∀ ty dc, (Builtin.copy_ #[97, 96] ty #[.slice (some ⟨g, i * 5, none⟩) (n + 1 - i) dc, .slice (some ⟨vb, 0, none⟩) 1 1]).run Tryz.prog W1 = .ok (goInt ((1 : Nat) : Int)) (W1.setRow g cur2) := fun ty dc => by
  have h := run_copy_rowN (P := Tryz.prog) W1 97 96 ty 299 5 g (i * 5) (n + 1 - i) dc ⟨vb, 0, none⟩ 1 1 cur1 299 vs Tryz.underlying97 hsz hg1
   (by rw [hvl, show Nat.min 1 (n + 1 - i) = 1 from Nat.min_eq_left (by omega)])
   (fun j v hj => by rw [Addr.add_lit, Nat.zero_add]; exact (hv1.cell j).trans (by simpa using hj))
   (by rw [hvl, hcur1l]; omega) h1
  rw [hcur2, show Nat.min 1 (n + 1 - i) = 1 from Nat.min_eq_left (by omega)] at h
  exact h
 have hfin : (W1.setRow g cur2).ownsRow 0 299 5 (.slice (some ⟨g, 0, none⟩) (n + 1) c) (n + 1) (laid 5 i vs xs) := by
  refine ⟨laid_length hxl hvl (by omega), .inr ⟨g, c, cur2, rfl, Nat.zero_le _, setRow_heap W1 g cur1 _ 299 (0, 0) hg1, hnc, hcm, hcur2l, ?_⟩⟩
  rw [← hcur2, ← hcur1]
  have := laid_cur (i := i) (vs := vs) (cur := cur.toList) hxl hvl (by omega) (by rw [Array.length_toList, hcs]; exact hck) hct
  simpa using this
 have Hfin := hide (And.intro hfin (grown_setRow (t := 299) (cur := cur2) hgr1))
 clear hcur1 hcur2 hg1 hgr1 hv1 hcur1l hcur2l hfin hct hcs hg hv h1 h2 hdl hsz hck hcm hxl hW1
 have hi' : (i : Int) < (n : Int) := by omega
 have hz2 : ¬ ((i : Int) = (n : Int)) := by omega
 have hi0 : (0 : Int) ≤ (i : Int) := Int.natCast_nonneg _
 have hb2 : ¬ (c = i + 1) := by omega
 have hb4 : ¬ (c = i) := by omega
 have hw1 : IntKind.i64.wrap ((i : Int) + 1) = (i : Int) + 1 := IntWalk.i64_in _ (by omega)
 have hw2 : IntKind.i64.wrap ((n : Int) + 1) = (n : Int) + 1 := IntWalk.i64_in _ (by omega)
 have hcap : ¬ (c : Int) < (n : Int) + 1 := by omega
 have htn : ((i : Int) + 1).toNat = i + 1 := by omega
 have htn2 : ((n : Int) + 1).toNat = n + 1 := by omega
 have hle : (i : Int) ≤ (n : Int) + 1 := by omega
 have hle2 : (i : Int) + 1 ≤ (n : Int) + 1 := by omega
 have hle3 : (n : Int) + 1 ≤ (c : Int) := by omega
 have hle4 : (i : Int) ≤ (n : Int) := by omega
 have hnn : (0 : Int) ≤ (n : Int) + 1 := by omega
 have hii : (0 : Int) ≤ (i : Int) + 1 := by omega
 go_enter Tryz.func170, Tryz.ntmps170
 go_wp2_with (simp only [hov])
 go_still_tail 8, (by kernel_rfl)
 change wpList _ _ _ _ _ w.drew
 go_wp2_with (at_builtin; refine wpList_copy_eq _ rfl _ _ 97 97 rfl _ _ rfl rfl (hcp1 _ _ _) ?_)
 go_wp2_with (at_builtin; refine wpList_copy_eq _ rfl _ _ 97 96 rfl _ _ rfl rfl (hcp2 _ _) ?_)
 go_ret
 exact ⟨_, rfl, Hfin.out.1, Hfin.out.2, .inl rfl⟩

set_option maxRecDepth 100000 in
set_option maxHeartbeats 4000000 in
theorem insertV_grow {n i vb g : Nat} {xs vs : List Value} {cur : Array Value} {w : World} (hg : w.heap[g]? = some (.cells cur 299 (0, 0))) (hcm : n ≤ maxLen) (hcs : cur.size = n * 5) (hct : cur.toList.take (n * 5) = xs) (hxl : xs.length = n * 5) (hi : i < n)
  (hv : Bk w vb 299 vs.toArray) (hvl : vs.length = 5) (h1 : ∀ u ∈ vs, u.oneCell' = true) (h2 : ∀ u ∈ xs, u.oneCell' = true) (hn : (n + 1) * 48 ≤ 140737488355328) :
  Calls Tryz.prog 170 #[.slice (some ⟨g, 0, none⟩) n n, .int .i64 (i : Int), .slice (some ⟨vb, 0, none⟩) 1 1] w (InsPost w 299 5 n (.slice (some ⟨g, 0, none⟩) n n) (laid 5 i vs xs)) := by
 have hsz : (Tryz.prog.info? 299).map (·.size) = some 5 := by kernel_rfl
 have hgl : g < w.heap.size := (Array.getElem?_eq_some_iff.1 hg).1
 have hn' : n ≤ 4398046511104 := by omega
 obtain ⟨i0, hi0, hz0, hs0, hb0⟩ : ∃ i, Tryz.prog.info? 299 = some i ∧ (∃ z, i.zero = some z ∧ z.cells.size = 5) ∧ i.size = 5 ∧ i.bytes = 48 := by
  refine ⟨_, rfl, ⟨_, rfl, by kernel_rfl⟩, by kernel_rfl, by kernel_rfl⟩
 obtain ⟨z, hz, hzc⟩ := hz0
 have hdl : (xs.drop (i * 5)).length = (n - i) * 5 := by rw [List.length_drop, hxl]; omega
 have htl : (xs.take (i * 5)).length = i * 5 := by rw [List.length_take, hxl]; omega
 have hold : (Builtin.firstCells i0.size i (.slice (some ⟨g, 0, none⟩) i n)).run Tryz.prog w.drew = .ok (xs.take (i * 5)).toArray w.drew := by
  rw [hs0]
  refine run_firstCells_some (P := Tryz.prog) w.drew 5 i ⟨g, 0, none⟩ i n (xs.take (i * 5)) htl fun j v hj => ?_
  rw [Addr.add_lit, Nat.zero_add]
  show w.cell? _ = _
  unfold World.cell?
  rw [hg]
  simp only
  rw [List.getElem?_take] at hj
  split at hj
  ·rw [← hct, List.getElem?_take] at hj
   split at hj
   ·simpa using hj
   ·cases hj
  ·cases hj
 have q1 := Lib.run_append_grow_zeros (P := Tryz.prog) w 97 3 97 299 i0 z .i64 .i64 Tryz.underlying97 Tryz.underlying3 hi0 hz (some ⟨g, 0, none⟩) i n (xs.take (i * 5)) hold (n + 1 - i) (by omega) (by rw [hs0]; decide) (by omega) (by omega) (by rw [hb0]; omega)
  (by rw [hb0]; exact growslice_fits (by omega) (by rw [show i + (n + 1 - i) = n + 1 from by omega]; exact hn))
 rw [show i + (n + 1 - i) = n + 1 from by omega] at q1
 have hC1 := grownCap_ge w (n + 1) n 299
 have hC2 := grownCap_le_maxLen w (n + 1) n 299 (by unfold maxLen; omega)
 generalize grownCap w (n + 1) n 299 = C at q1 hC1 hC2
 obtain ⟨row0, hrow0⟩ : ∃ row0 : Array Value, (xs.take (i * 5)).toArray ++ Builtin.zeroCells z.cells (n + 1 - i) ++ Builtin.zeroCells z.cells (C - (n + 1)) = row0 := ⟨_, rfl⟩
 rw [hrow0] at q1
 have hr0l : row0.size = C * 5 := by rw [← hrow0]; simp only [Array.size_append, size_zeroCells, hzc, List.size_toArray, htl]; omega
 have hr0t : row0.toList.take (i * 5) = xs.take (i * 5) := by
  rw [← hrow0, Array.toList_append, Array.toList_append, List.append_assoc, List.take_left' (by simpa using htl)]
 obtain ⟨B, hB⟩ : ∃ B, w.heap.size = B := ⟨_, rfl⟩
 obtain ⟨W1, hW1⟩ : ∃ W1, w.drew.alloc (.cells row0 299) = W1 := ⟨_, rfl⟩
 rw [hW1, hB] at q1
 have hg1 : W1.heap[B]? = some (.cells row0 299 (0, 0)) := by rw [← hW1, ← hB]; exact heap_alloc_new w.drew _
 have hgr1 : w.grownBy W1 (some g) := by rw [← hW1]; exact grown_alloc (grown_drew (World.grownBy.refl w.drew _))
 have hvB : vb ≠ B := by have := hv.lt; omega
 have hvW : Bk W1 vb 299 vs.toArray := by rw [← hW1]; exact (hv.drew).alloc _
 -- the two copies
 obtain ⟨cur1, hcur1⟩ : ∃ cur1 : Array Value, (row0.toList.take (i * 5) ++ vs ++ row0.toList.drop (i * 5 + vs.length)).toArray = cur1 := ⟨_, rfl⟩
 have hcur1l : cur1.size = C * 5 := by rw [← hcur1]; simp [hvl, hr0l]; omega
 have hcp1 : ∀ ty dc, (Builtin.copy_ #[97, 96] ty #[.slice (some ⟨B, i * 5, none⟩) (n + 1 - i) dc, .slice (some ⟨vb, 0, none⟩) 1 1]).run Tryz.prog W1 = .ok (goInt ((1 : Nat) : Int)) (W1.setRow B cur1) := fun ty dc => by
  have h := run_copy_rowN (P := Tryz.prog) W1 97 96 ty 299 5 B (i * 5) (n + 1 - i) dc ⟨vb, 0, none⟩ 1 1 row0 299 vs Tryz.underlying97 hsz hg1
   (by rw [hvl, show Nat.min 1 (n + 1 - i) = 1 from Nat.min_eq_left (by omega)])
   (fun j v hj => by rw [Addr.add_lit, Nat.zero_add]; exact (hvW.cell j).trans (by simpa using hj))
   (by rw [hvl, hr0l]; omega) h1
  rw [hcur1, show Nat.min 1 (n + 1 - i) = 1 from Nat.min_eq_left (by omega)] at h
  exact h
 obtain ⟨W2, hW2⟩ : ∃ W2, W1.setRow B cur1 = W2 := ⟨_, rfl⟩
 rw [hW2] at hcp1
 have hg2 : W2.heap[B]? = some (.cells cur1 299 (0, 0)) := by rw [← hW2]; exact setRow_heap W1 B row0 _ 299 (0, 0) hg1
 have hgr2 : w.grownBy W2 (some g) := by rw [← hW2]; exact grown_setRowNew hgr1 (by omega)
 have hgW : W2.heap[g]? = some (.cells cur 299 (0, 0)) := by
  rw [← hW2, ← hW1]
  have hne : B ≠ g := by omega
  have : (w.drew.alloc (.cells row0 299)).heap[g]? = some (.cells cur 299 (0, 0)) := (Below.heap_alloc w.drew _ g hgl).trans hg
  simp only [World.setRow, Array.getElem?_modify, hne, if_false]
  exact this
 obtain ⟨cur2, hcur2⟩ : ∃ cur2 : Array Value, (cur1.toList.take ((i + 1) * 5) ++ xs.drop (i * 5) ++ cur1.toList.drop ((i + 1) * 5 + (xs.drop (i * 5)).length)).toArray = cur2 := ⟨_, rfl⟩
 have hcur2l : cur2.size = C * 5 := by rw [← hcur2]; simp [hdl, hcur1l]; omega
 have hcp2 : ∀ ty dc sc, (Builtin.copy_ #[97, 97] ty #[.slice (some ⟨B, (i + 1) * 5, none⟩) (n - i) dc, .slice (some ⟨g, i * 5, none⟩) (n - i) sc]).run Tryz.prog W2.drew = .ok (goInt ((n - i : Nat) : Int)) (W2.drew.setRow B cur2) := fun ty dc sc => by
  have h := run_copy_rowN (P := Tryz.prog) W2.drew 97 97 ty 299 5 B ((i + 1) * 5) (n - i) dc ⟨g, i * 5, none⟩ (n - i) sc cur1 299 (xs.drop (i * 5)) Tryz.underlying97 hsz hg2
   (by rw [hdl, show Nat.min (n - i) (n - i) = n - i from Nat.min_eq_left (by omega)])
   (fun j v hj => by
    rw [List.getElem?_drop] at hj
    rw [Addr.add_lit]
    show W2.cell? _ = _
    unfold World.cell?
    rw [hgW]
    simp only
    rw [← hct, List.getElem?_take] at hj
    split at hj
    ·simpa using hj
    ·cases hj)
   (by rw [hdl, hcur1l]; omega) (fun u hu => h2 u (List.mem_of_mem_drop hu))
  rw [hcur2, show Nat.min (n - i) (n - i) = n - i from Nat.min_eq_left (by omega)] at h
  exact h
 have hfin : (W2.drew.setRow B cur2).ownsRow 0 299 5 (.slice (some ⟨B, 0, none⟩) (n + 1) C) (n + 1) (laid 5 i vs xs) := by
  refine ⟨laid_length hxl hvl (by omega), .inr ⟨B, C, cur2, rfl, Nat.zero_le _, setRow_heap W2.drew B cur1 _ 299 (0, 0) hg2, hC1, hC2, hcur2l, ?_⟩⟩
  rw [← hcur2, ← hcur1]
  have := laid_grow (row0 := row0.toList) hxl hvl (by omega) hr0t (by rw [Array.length_toList, hr0l]; omega)
  simpa using this
 have hgr3 : w.grownBy (W2.drew.setRow B cur2) (some g) := grown_setRowNew ⟨hgr2.os, hgr2.tape, hgr2.output, hgr2.size, hgr2.block⟩ (by omega)
 have Hfin := hide (And.intro hfin (And.intro hgr3 (Nat.le_of_eq hB)))
 have hC2' : C ≤ 9223372036854775807 := hC2
 clear hcur1 hcur2 hg1 hg2 hgr1 hgr2 hgr3 hvW hvB hgW hgl hcur1l hcur2l hr0l hr0t hrow0 hfin hct hcs hg hv h1 h2 hdl htl hsz hcm hxl hW1 hW2 hB hold hi0 hz hs0 hb0 hzc hC2 hn
 have hi' : (i : Int) < (n : Int) := by omega
 have hz2 : ¬ ((i : Int) = (n : Int)) := by omega
 have hi0 : (0 : Int) ≤ (i : Int) := Int.natCast_nonneg _
 have hb2 : ¬ (C = i + 1) := by omega
 have hb4 : ¬ (C = i) := by omega
 have hb5 : ¬ (n = i) := by omega
 have hw1 : IntKind.i64.wrap ((i : Int) + 1) = (i : Int) + 1 := IntWalk.i64_in _ (by omega)
 have hw2 : IntKind.i64.wrap ((n : Int) + 1) = (n : Int) + 1 := IntWalk.i64_in _ (by omega)
 have hw3 : IntKind.i64.wrap ((n : Int) + 1 - (i : Int)) = ((n + 1 - i : Nat) : Int) := by rw [IntWalk.i64_in _ (by omega)]; omega
 have hcap : (n : Int) < (n : Int) + 1 := by omega
 have htn : ((i : Int) + 1).toNat = i + 1 := by omega
 have htn2 : ((n : Int) + 1).toNat = n + 1 := by omega
 have hle : (i : Int) ≤ (n : Int) + 1 := by omega
 have hle2 : (i : Int) + 1 ≤ (n : Int) + 1 := by omega
 have hle3 : (n : Int) + 1 ≤ (C : Int) := by omega
 have hle4 : (i : Int) ≤ (n : Int) := by omega
 have hnn : (0 : Int) ≤ (n : Int) + 1 := by omega
 have hii : (0 : Int) ≤ (i : Int) + 1 := by omega
 go_enter Tryz.func170, Tryz.ntmps170
 go_wp2_with (at_builtin; first | (refine Lib.wpList_append_run _ rfl _ _ _ _ rfl _ _ rfl rfl _ _ q1 ?_) | (refine wpList_copy_eq _ rfl _ _ 97 96 rfl _ _ rfl rfl (hcp1 _ _) ?_))
 go_still_tail 8, (by kernel_rfl)
 change wpList _ _ _ _ _ W2.drew
 go_wp2_with (at_builtin; refine wpList_copy_eq _ rfl _ _ 97 97 rfl _ _ rfl rfl (hcp2 _ _ _) ?_)
 go_ret
 exact ⟨_, rfl, Hfin.out.1, Hfin.out.2.1, .inr ⟨_, rfl, Hfin.out.2.2⟩⟩

theorem insertV_calls {n i vb : Nat} {s : Value} {xs vs : List Value} {w : World} (hown : w.ownsRow 0 299 5 s n xs) (hi : i ≤ n)
  (hv : Bk w vb 299 vs.toArray) (hvl : vs.length = 5) (h1 : ∀ u ∈ vs, u.oneCell' = true) (h2 : ∀ u ∈ xs, u.oneCell' = true) (hvb : s.ownBlock ≠ some vb) (hn : (n + 1) * 48 ≤ 140737488355328) :
  Calls Tryz.prog 170 #[s, .int .i64 (i : Int), .slice (some ⟨vb, 0, none⟩) 1 1] w (InsPost w 299 5 n s (laid 5 i vs xs)) := by
 by_cases he : i = n
 ·subst he
  exact insertV_end hown hv hvl h1 hn
 ·obtain ⟨hxl, ⟨rfl, h0⟩ | ⟨g, c, cur, rfl, _, hg, hnc, hcm, hcs, hct⟩⟩ := hown
  ·omega
  ·by_cases hr : n + 1 ≤ c
   ·exact insertV_shift hg hr hcm hcs hct hxl (by omega) hv hvl h1 h2 (fun e => hvb (by rw [e]; rfl))
   ·have : c = n := by omega
    subst this
    exact insertV_grow hg hcm hcs hct hxl (by omega) hv hvl h1 h2 hn

end Go.Proofs.YtbicoknghdgahaaGreat

namespace Go.Proofs.YtbicoknghdgahaaGreat
open Go.RowKit
attribute [local go_sem] run_store_float

set_option maxRecDepth 100000 in
set_option maxHeartbeats 4000000 in
theorem searchV_calls {f : FuncId} (hcf : ∀ args W, (callFunc f args).run Tryz.prog W = .ok (.enter f args) W) {Q : World → E → List Value → Prop} {l : List E} {A : Option Addr} {c : Nat} {w : World} {xs : List Value} {e : E} {t0 t1 t2 t3 : Value} (hl47 : l.length * 48 ≤ R47) (hr : Row (Old w) w 5 A l.length xs) (hx : Cells 5 (Q w) l xs)
  (hQ : ∀ W a cs, Below w.heap.size w W → Q w a cs → Q W a cs) (hQl : ∀ W a cs, Q W a cs → cs.length = 5) (hok : POk l) (he : e.Ok) (hs : SortC E.cmp l)
  (hF : ∀ (a : E) (cs : List Value) (W : World), Below w.heap.size w W → Q W a cs → Calls Tryz.prog f #[.agg cs.toArray, .agg #[t0, t1, t2, t3]] W (CmpPost (E.cmp a e) W)) :
  Calls Tryz.prog 168 #[.slice A l.length c, .agg #[t0, t1, t2, t3], .func (.func f) #[] #[]] w (SearchPost l e w) := by
 have hl47' : l.length * 48 ≤ 140737488351232 := hl47
 have hcl := cntC_le (c := E.cmp) e l
 have Hcl := hide (cntC_lt E.ord_ he hok hs)
 have H7 := hide (And.intro hr hx)
 have HQ := hide (And.intro hQ hQl)
 have HF := hide hF
 have Hhas := hide (show hasC E.cmp e l = (match l[cntC E.cmp e l]? with | some a => decide (E.cmp a e = 0) | none => false) from by unfold hasC; cases l[cntC E.cmp e l]? <;> rfl)
 unfold SearchPost
 generalize hasC E.cmp e l = has at *
 generalize cntC E.cmp e l = cnt at *
 clear hl47 hr hx hQ hQl hok he hs hF
 go_enter Tryz.func168, Tryz.ntmps168
 go_wp2_with fail
 have hB0 := Bk.new w 109 #[t0, t1, t2, t3]
 have hb0 : Below w.heap.size w (w.alloc (.cells #[t0, t1, t2, t3] 109)) := (Below.refl _ _).alloc (Nat.le_refl _) _
 have H0 := hide (And.intro hB0 hb0)
 clear hB0 hb0
 go_loopw [9, 10] (fun s9 s10 W => BSInv w l.length cnt #[t0, t1, t2, t3] s9 s10 W) (fun s9 s10 _ => (intOf s10).toNat - (intOf s9).toNat)
 case atStart => exact ⟨0, l.length, rfl, rfl, Nat.zero_le _, hcl, Nat.le_refl _, H0.out.1, H0.out.2⟩
 case round =>
  obtain ⟨i, j, rfl, rfl, hi, hj, hjn, hB, hb⟩ := hrel
  have hi0 : (0 : Int) ≤ (i : Int) := Int.natCast_nonneg _
  have hj0 : (0 : Int) ≤ (j : Int) := Int.natCast_nonneg _
  have ec := (bcell hb).1
  have p0 := hB.cell 0
  have p1 := hB.cell 1
  have p2 := hB.cell 2
  have p3 := hB.cell 3
  simp at p0 p1 p2 p3
  have hgl := hB.lt
  by_cases hlt : i < j
  ·have hlti : (i : Int) < (j : Int) := by omega
   obtain ⟨h, hh⟩ : ∃ h, (i + j) / 2 = h := ⟨_, rfl⟩
   have hh1 : i ≤ h := by omega
   have hh2 : h < j := by omega
   have hhl : h < l.length := by omega
   have eh : ((i : Int) + (j : Int)) / 2 = (h : Int) := by omega
   have hhi0 : (0 : Int) ≤ (h : Int) := Int.natCast_nonneg _
   have hhi1 : (h : Int) < (l.length : Int) := by omega
   have hlh : l[h]? = some l[h] := List.getElem?_eq_getElem hhl
   have hx := H7.out.2.at_ hhl
   have hcm := Hcl.out h _ hlh
   generalize l[h] = a at *
   generalize hcs : (xs.drop (h * 5)).take 5 = fcs at hx
   obtain ⟨c0, c1, c2, c3, c4, rfl⟩ : ∃ c0 c1 c2 c3 c4, fcs = [c0, c1, c2, c3, c4] := by
    have hlen := HQ.out.2 _ _ _ hx
    match fcs, hlen with
    | [c0, c1, c2, c3, c4], _ => exact ⟨c0, c1, c2, c3, c4, rfl⟩
   obtain ⟨rb, ro, rfl, hF, hc⟩ := rown_at H7.out.1 hhl hcs
   have m0 := (ec _ _ hF).trans (hc 0 _ rfl)
   have m1 := (ec _ _ hF).trans (hc 1 _ rfl)
   have m2 := (ec _ _ hF).trans (hc 2 _ rfl)
   have m3 := (ec _ _ hF).trans (hc 3 _ rfl)
   have m4 := (ec _ _ hF).trans (hc 4 _ rfl)
   rw [Nat.add_zero] at m0
   have hx' := HQ.out.1 wr.drew _ _ (below_drew hb) hx
   have HC := hide (HF.out a _ wr.drew (below_drew hb) hx')
   obtain ⟨v, hv⟩ : ∃ v, E.cmp a e = v := ⟨_, rfl⟩
   rw [hv] at HC hcm
   have Hcm := hide hcm
   have Hb := hide (And.intro hB hb)
   clear hB hb hx hx' hcs hc ec hF hlh hcm hv hh
   go_upto_region 5 with fail
   go_still_tail 6, (by kernel_rfl)
   change wpList _ _ _ _ _ wr.drew
   go_wp2_with fail
   refine HC.out.mono ?_
   rintro e w1 ⟨rfl, hb1⟩
   have hb1' := below_drew' hb1
   have H1 := hide (And.intro (Hb.out.1.below hb1' Hb.out.1.lt) (Hb.out.2.trans (hb1'.mono Hb.out.2.size)))
   clear hb1 hb1' m0 m1 m2 m3 m4 p0 p1 p2 p3 HC
   by_cases hv0 : v < 0
   ·have hc1 := Hcm.out.1 hv0
    clear Hcm
    go_wp2_with fail
    exact ⟨⟨h + 1, j, by go_num, rfl, by omega, hj, hjn, H1.out.1, H1.out.2⟩, by simp [intOf]; omega⟩
   ·have hc1 : ¬ h < cnt := fun k => hv0 (Hcm.out.2 k)
    clear Hcm
    go_wp2_with fail
    exact ⟨⟨i, h, rfl, rfl, hi, by omega, by omega, H1.out.1, H1.out.2⟩, by simp [intOf]; omega⟩
  ·have hci : i = cnt := by omega
   have hlti : ¬ (i : Int) < (j : Int) := by omega
   by_cases hin : i < l.length
   ·have hini : (i : Int) < (l.length : Int) := by omega
    have hlh : l[i]? = some l[i] := List.getElem?_eq_getElem hin
    have hx := H7.out.2.at_ hin
    have hhas := Hhas.out
    rw [← hci, hlh] at hhas
    simp only at hhas
    generalize l[i] = a at *
    generalize hcs : (xs.drop (i * 5)).take 5 = fcs at hx
    obtain ⟨c0, c1, c2, c3, c4, rfl⟩ : ∃ c0 c1 c2 c3 c4, fcs = [c0, c1, c2, c3, c4] := by
     have hlen := HQ.out.2 _ _ _ hx
     match fcs, hlen with
     | [c0, c1, c2, c3, c4], _ => exact ⟨c0, c1, c2, c3, c4, rfl⟩
    obtain ⟨rb, ro, rfl, hF, hc⟩ := rown_at H7.out.1 hin hcs
    have q0 := hc 0 _ rfl
    have q1 := hc 1 _ rfl
    have q2 := hc 2 _ rfl
    have q3 := hc 3 _ rfl
    have q4 := hc 4 _ rfl
    rw [Nat.add_zero] at q0
    have hx' := HQ.out.1 wr.drew _ _ (below_drew hb) hx
    have HC := hide (HF.out a _ wr.drew (below_drew hb) hx')
    obtain ⟨v, hv⟩ : ∃ v, E.cmp a e = v := ⟨_, rfl⟩
    rw [hv] at HC hhas
    have Hci := hide hci
    have Hh := hide hhas
    have HB := hide (And.intro hb hB)
    clear hB hb hx hx' hcs hc ec hlh hhas hv hci Hhas p0 p1 p2 p3
    go_upto_region 8 with fail
    obtain ⟨S, hS⟩ : ∃ S, (fun W => Below w.heap.size w W ∧ Bk W w.heap.size 109 #[t0, t1, t2, t3]) = S := ⟨_, rfl⟩
    have hS0 : S wr.drew := by rw [← hS]; exact ⟨below_drew HB.out.1, HB.out.2.drew⟩
    refine wp_region_head 15 S (by rfl) (by kernel_rfl) ?_
    have hX := hide (show ∀ W : World, S W → Below w.heap.size w W ∧ Bk W w.heap.size 109 #[t0, t1, t2, t3] from fun W hSw => by rw [← hS] at hSw; exact hSw)
    iterate 11
     refine HT.nx (v := ?_) rfl (by kernel_rfl) (fun _ _ _ h => h) (Or.inl ⟨by rfl, ?_⟩) ‹_› ?_
     rotate_left
     ·intro W hSw; have hSw := hX.out W hSw; have ecw := (bcell hSw.1).1; have m0 := (ecw _ _ hF).trans q0; have m1 := (ecw _ _ hF).trans q1; have m2 := (ecw _ _ hF).trans q2; have m3 := (ecw _ _ hF).trans q3; have m4 := (ecw _ _ hF).trans q4; have s0 := hSw.2.cell 0; have s1 := hSw.2.cell 1; have s2 := hSw.2.cell 2; have s3 := hSw.2.cell 3; simp at s0 s1 s2 s3; clear hSw ecw; go_simp; with_reducible rfl
     simp only [Act.put, zzA, zzZ, zzS]
    clear hX
    refine HT.one 11 rfl (by kernel_rfl) (by rfl) (fun K hK => ?_)
    go_simp
    refine HC.out.mono ?_
    rintro e w1 ⟨rfl, hb1⟩
    have hS1 : S w1 := by rw [← hS]; exact ⟨(below_drew HB.out.1).trans (hb1.mono (below_drew HB.out.1).size), HB.out.2.drew.below hb1 hgl⟩
    have H1 := hide (HB.out.1.trans ((below_drew' hb1).mono HB.out.1.size))
    clear hb1 q0 q1 q2 q3 q4 hF HC
    by_cases hv0 : v = 0
    ·have hb : has = true := by rw [Hh.out]; exact decide_eq_true hv0
     subst hv0 hb
     go_simp
     refine hK.out _ _ hS1 ?_
     clear hK
     iterate 3
      refine HT.nx (v := ?_) rfl (by kernel_rfl) (fun _ _ _ h => h) (Or.inl ⟨by rfl, ?_⟩) ‹_› ?_
      rotate_left
      ·intro W hSw; go_simp; with_reducible rfl
      simp only [Act.put, zzA, zzZ, zzS]
     refine HT.done (by kernel_rfl) ?_
     go_wp2
     go_ret2
     exact ⟨by first | (rw [Hci.out]; done) | (rw [Hci.out]; rfl), H1.out⟩
    ·have hb : has = false := by rw [Hh.out]; exact decide_eq_false hv0
     subst hb
     have hvb : (v == 0) = false := by simpa using hv0
     go_simp
     refine hK.out _ _ hS1 ?_
     clear hK
     iterate 3
      refine HT.nx (v := ?_) rfl (by kernel_rfl) (fun _ _ _ h => h) (Or.inl ⟨by rfl, ?_⟩) ‹_› ?_
      rotate_left
      ·intro W hSw; go_simp; with_reducible rfl
      simp only [Act.put, zzA, zzZ, zzS]
     refine HT.done (by kernel_rfl) ?_
     go_wp2
     go_ret2
     exact ⟨by first | (rw [Hci.out]; done) | (rw [Hci.out]; rfl), H1.out⟩
   ·have hini : ¬ (i : Int) < (l.length : Int) := by omega
    have hb : has = false := by rw [Hhas.out, ← hci, List.getElem?_eq_none (by omega)]
    subst hb
    have Hci := hide hci
    have Hb := hide hb
    clear hB hb ec hci Hhas
    go_wp2_with fail
    go_quiet (fail)
    go_wp2
    go_ret2
    exact ⟨by first | (rw [Hci.out]; done) | (rw [Hci.out]; rfl), below_drewN Hb.out _⟩

end Go.Proofs.YtbicoknghdgahaaGreat

namespace Go.Proofs.YtbicoknghdgahaaGreat

def vcmp (p q : E × T) : Int := E.cmp p.1 q.1
def putV (e : E) (v : T) : List (E × T) → List (E × T)
 | [] => [(e, v)]
 | k :: r => if E.cmp k.1 e < 0 then k :: putV e v r else if E.cmp k.1 e = 0 then (k.1, v) :: r else (e, v) :: k :: r
def findV (e : E) : List (E × T) → Option T
 | [] => none
 | k :: r => if E.cmp k.1 e = 0 then some k.2 else findV e r
def VOk (ks : List (E × T)) : Prop := (∀ k ∈ ks, k.1.Ok) ∧ SortC vcmp ks
theorem VOk.tail {k : E × T} {ks : List (E × T)} (h : VOk (k :: ks)) : VOk ks := ⟨fun x hx => h.1 x (by simp [hx]), (List.pairwise_cons.1 h.2).2⟩
theorem VOk.keys {ks : List (E × T)} (h : VOk ks) : POk (ks.map Prod.fst) ∧ SortC E.cmp (ks.map Prod.fst) :=
 ⟨fun x hx => by obtain ⟨k, hk, rfl⟩ := List.mem_map.1 hx; exact h.1 k hk, List.pairwise_map.2 h.2⟩
theorem putV_found {e : E} {ks : List (E × T)} (hh : hasC E.cmp e (ks.map Prod.fst) = true) : ∃ k, ks[cntC E.cmp e (ks.map Prod.fst)]? = some k ∧ E.cmp k.1 e = 0 ∧ ∀ v, putV e v ks = ks.set (cntC E.cmp e (ks.map Prod.fst)) (k.1, v) := by
 induction ks with
 | nil => simp [hasC] at hh
 | cons a ks ih =>
  unfold hasC at hh
  simp only [List.map_cons, cntC] at hh ⊢
  by_cases h : E.cmp a.1 e < 0
  ·rw [if_pos h] at hh ⊢
   obtain ⟨k, h1, h2, h3⟩ := ih (by unfold hasC; simpa using hh)
   refine ⟨k, by simpa using h1, h2, fun v => ?_⟩
   rw [putV, if_pos h, h3 v, List.set_cons_succ]
  ·rw [if_neg h] at hh ⊢
   have h0 : E.cmp a.1 e = 0 := by simpa using hh
   refine ⟨a, rfl, h0, fun v => ?_⟩
   rw [putV, if_neg h, if_pos h0, List.set_cons_zero]
theorem putV_new {e : E} {ks : List (E × T)} (hh : hasC E.cmp e (ks.map Prod.fst) = false) : ∀ v, putV e v ks = ks.take (cntC E.cmp e (ks.map Prod.fst)) ++ (e, v) :: ks.drop (cntC E.cmp e (ks.map Prod.fst)) := by
 induction ks with
 | nil => intro v; simp [putV, cntC]
 | cons a ks ih =>
  unfold hasC at hh
  simp only [List.map_cons, cntC] at hh ⊢
  by_cases h : E.cmp a.1 e < 0
  ·rw [if_pos h] at hh ⊢
   intro v
   have := ih (by unfold hasC; simpa using hh) v
   rw [putV, if_pos h, this]
   simp
  ·rw [if_neg h] at hh ⊢
   have h0 : ¬ E.cmp a.1 e = 0 := by simpa using hh
   intro v
   rw [putV, if_neg h, if_neg h0]
   simp
theorem findV_of {e : E} {ks : List (E × T)} (he : e.Ok) (h : VOk ks) {k : E × T} (hk : k ∈ ks) (h0 : E.cmp k.1 e = 0) : findV e ks = some k.2 := by
 induction ks with
 | nil => cases hk
 | cons x ks ih =>
  obtain ⟨h1, h2⟩ := List.pairwise_cons.1 h.2
  rw [findV]
  rcases List.mem_cons.1 hk with rfl | hk
  ·rw [if_pos h0]
  ·have hlt : E.cmp x.1 k.1 < 0 := h1 k hk
   have : E.cmp x.1 e < 0 := E.ord_.lt_le (h.1 x (by simp)) (h.1 k (by simp [hk])) he hlt (by omega)
   rw [if_neg (by omega)]
   exact ih h.tail hk
theorem findV_mem {e : E} {ks : List (E × T)} {t : T} (h : findV e ks = some t) : ∃ k ∈ ks, E.cmp k.1 e = 0 ∧ k.2 = t := by
 induction ks with
 | nil => cases h
 | cons k ks ih =>
  rw [findV] at h
  split at h
  ·exact ⟨k, by simp, by assumption, Option.some.inj h⟩
  ·obtain ⟨k', h1, h2⟩ := ih h
   exact ⟨k', by simp [h1], h2⟩
theorem findV_none {e : E} {ks : List (E × T)} (he : e.Ok) (h : VOk ks) (hh : hasC E.cmp e (ks.map Prod.fst) = false) : findV e ks = none := by
 cases hf : findV e ks with
 | none => rfl
 | some t =>
  obtain ⟨k, hk, h0, -⟩ := findV_mem hf
  have := (hasC_iff E.ord_ he (l := ks.map Prod.fst) h.keys.1 h.keys.2).2 ⟨k.1, List.mem_map.2 ⟨k, hk, rfl⟩, h0⟩
  rw [this] at hh
  cases hh

end Go.Proofs.YtbicoknghdgahaaGreat
