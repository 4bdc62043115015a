/- Parts: Insert. -/
import Derived.Test.YtbicoknghdgahaaGreatKA10
set_option linter.unusedVariables false
set_option linter.unusedSimpArgs false
namespace Go.Proofs.YtbicoknghdgahaaGreat
open Go.RowKit
attribute [local go_sem] run_store_float

set_option maxRecDepth 100000 in
set_option maxHeartbeats 4000000 in
theorem insertE_end {n vb : Nat} {s : Value} {xs vs : List Value} {w : World} (hown : w.ownsRow 0 109 4 s n xs) (hv : Bk w vb 109 vs.toArray) (hvl : vs.length = 4) (h1 : ∀ u ∈ vs, u.oneCell' = true) (hn : (n + 1) * 32 ≤ 140737488355328) :
  Calls Tryz.prog 184 #[s, .int .i64 (n : Int), .slice (some ⟨vb, 0, none⟩) 1 1] w (InsPost w 109 4 n s (laid 4 n vs xs)) := by
 obtain ⟨i0, hi0, hz0, hs0, hb0⟩ : ∃ i, Tryz.prog.info? 109 = some i ∧ (∃ z, i.zero = some z ∧ z.cells.size = 4) ∧ i.size = 4 ∧ i.bytes = 32 := by
  refine ⟨_, rfl, ⟨_, rfl, by kernel_rfl⟩, by kernel_rfl, by kernel_rfl⟩
 obtain ⟨z, hz, hzc⟩ := hz0
 obtain ⟨v', w', q1, q2, q3, q5⟩ := run_append_row (P := Tryz.prog) w 0 122 122 109 i0 z 4 32 Tryz.underlying122 hi0 hz hs0 hb0 hzc (by omega) s n xs hown (fun _ => True) (some ⟨vb, 0, none⟩) 1 1 vs (Row.of_bki hv (by simp [hvl]) trivial) h1 hn (by omega) (Nat.zero_le _)
 rw [← run_append_types 122 121 109 109 122 Tryz.underlying122 Tryz.underlying121] at q1
 have hxl : xs.length = n * 4 := hown.1
 have hlaid : laid 4 n vs xs = xs ++ vs := by
  unfold laid
  rw [List.take_of_length_le (by omega), List.drop_eq_nil_of_le (by omega), List.append_nil]
 rw [hlaid]
 have Hfin := hide (And.intro q2 (And.intro q3 q5))
 obtain ⟨A, c, rfl, hc1, hc2⟩ := own_form hown
 have hc2' : c ≤ 9223372036854775807 := hc2
 have hn' : n ≤ 4398046511104 := by omega
 clear hown hv hvl h1 hn q2 q3 q5 hxl hlaid hi0 hz hs0 hb0 hzc hc2
 by_cases hcn : c = n
 ·subst hcn
  go_enter Tryz.func184, Tryz.ntmps184
  go_wp2_with (at_builtin; refine Lib.wpList_append_run _ rfl _ _ _ _ rfl _ _ rfl rfl _ _ q1 ?_)
  go_ret
  exact ⟨v', rfl, Hfin.out.1, Hfin.out.2.1, Hfin.out.2.2.imp id fun e => ⟨_, e, Nat.le_refl _⟩⟩
 ·go_enter Tryz.func184, Tryz.ntmps184
  go_wp2_with (at_builtin; refine Lib.wpList_append_run _ rfl _ _ _ _ rfl _ _ rfl rfl _ _ q1 ?_)
  go_ret
  exact ⟨v', rfl, Hfin.out.1, Hfin.out.2.1, Hfin.out.2.2.imp id fun e => ⟨_, e, Nat.le_refl _⟩⟩

set_option maxRecDepth 100000 in
set_option maxHeartbeats 4000000 in
theorem insertE_shift {n i vb g c : Nat} {xs vs : List Value} {cur : Array Value} {w : World} (hg : w.heap[g]? = some (.cells cur 109 (0, 0))) (hnc : n + 1 ≤ c) (hcm : c ≤ maxLen) (hcs : cur.size = c * 4) (hct : cur.toList.take (n * 4) = xs) (hxl : xs.length = n * 4) (hi : i < n)
  (hv : Bk w vb 109 vs.toArray) (hvl : vs.length = 4) (h1 : ∀ u ∈ vs, u.oneCell' = true) (h2 : ∀ u ∈ xs, u.oneCell' = true) (hvb : vb ≠ g) :
  Calls Tryz.prog 184 #[.slice (some ⟨g, 0, none⟩) n c, .int .i64 (i : Int), .slice (some ⟨vb, 0, none⟩) 1 1] w (InsPost w 109 4 n (.slice (some ⟨g, 0, none⟩) n c) (laid 4 i vs xs)) := by
 have hcm' : c ≤ 9223372036854775807 := hcm
 have hsz : (Tryz.prog.info? 109).map (·.size) = some 4 := by kernel_rfl
 have hdl : (xs.drop (i * 4)).length = (n - i) * 4 := by rw [List.length_drop, hxl]; omega
 have hck : (n + 1) * 4 ≤ c * 4 := Nat.mul_le_mul_right _ hnc
 -- the overlap
 have hov : ∀ lb cb, (callFunc 211 #[.slice (some ⟨vb, 0, none⟩) 1 1, .slice (some ⟨g, (i + 1) * 4, none⟩) lb cb]).run Tryz.prog w = .ok (.value (.bool false)) w := fun lb cb => by
  rw [run_callFunc_extern Tryz.func211 (by kernel_rfl) (by kernel_rfl) (by kernel_rfl) (e := Extern.SlicesOverlaps.overlaps #[121, 121] #[4]) (by kernel_rfl),
   Lib.run_overlaps_apart w 121 4 109 Tryz.underlying121 4 (fun w => by kernel_rfl) ⟨vb, 0, none⟩ ⟨g, (i + 1) * 4, none⟩ 1 1 lb cb hvb 109 109 4 (c * 4) (by unfold World.shape?; rw [show w.heap[vb]? = _ from hv]; simp [hvl]) (by unfold World.shape?; rw [hg]; simp [hcs]) (by omega) (hv.free _) (hv.free _)]
  rfl
 -- the two copies
 obtain ⟨cur1, hcur1⟩ : ∃ cur1 : Array Value, (cur.toList.take ((i + 1) * 4) ++ xs.drop (i * 4) ++ cur.toList.drop ((i + 1) * 4 + (xs.drop (i * 4)).length)).toArray = cur1 := ⟨_, rfl⟩
 have hcur1l : cur1.size = c * 4 := by rw [← hcur1]; simp [hdl, hcs]; omega
 have hcp1 : ∀ ty dc sc, (Builtin.copy_ #[122, 122] ty #[.slice (some ⟨g, (i + 1) * 4, none⟩) (n - i) dc, .slice (some ⟨g, i * 4, none⟩) (n + 1 - i) sc]).run Tryz.prog w.drew = .ok (goInt ((n - i : Nat) : Int)) (w.drew.setRow g cur1) := fun ty dc sc => by
  have h := run_copy_rowN (P := Tryz.prog) w.drew 122 122 ty 109 4 g ((i + 1) * 4) (n - i) dc ⟨g, i * 4, none⟩ (n + 1 - i) sc cur 109 (xs.drop (i * 4)) Tryz.underlying122 hsz hg
   (by rw [hdl, show Nat.min (n + 1 - i) (n - i) = n - i from Nat.min_eq_right (by omega)])
   (fun j v hj => by
    rw [List.getElem?_drop] at hj
    rw [Addr.add_lit]
    show w.cell? _ = _
    unfold World.cell?
    rw [hg]
    simp only
    have hjl := (List.getElem?_eq_some_iff.1 hj).1
    rw [← hct, List.getElem?_take] at hj
    split at hj
    ·simpa using hj
    ·cases hj)
   (by rw [hdl, hcs]; omega) (fun u hu => h2 u (List.mem_of_mem_drop hu))
  rw [hcur1, show Nat.min (n + 1 - i) (n - i) = n - i from Nat.min_eq_right (by omega)] at h
  exact h
 obtain ⟨W1, hW1⟩ : ∃ W1, w.drew.setRow g cur1 = W1 := ⟨_, rfl⟩
 rw [hW1] at hcp1
 have hg1 : W1.heap[g]? = some (.cells cur1 109 (0, 0)) := by rw [← hW1]; exact setRow_heap w.drew g cur _ 109 (0, 0) hg
 have hgr1 : w.grownBy W1 (some g) := by rw [← hW1]; exact grown_setRow (t := 109) (grown_drew (World.grownBy.refl w.drew _))
 have hv1 : Bk W1 vb 109 vs.toArray := hv.grown hgr1 (fun e => hvb (Option.some.inj e))
 obtain ⟨cur2, hcur2⟩ : ∃ cur2 : Array Value, (cur1.toList.take (i * 4) ++ vs ++ cur1.toList.drop (i * 4 + vs.length)).toArray = cur2 := ⟨_, rfl⟩
 have hcur2l : cur2.size = c * 4 := by rw [← hcur2]; simp [hvl, hcur1l]; omega
 have hcp2 : ∀ ty dc, (Builtin.copy_ #[122, 121] ty #[.slice (some ⟨g, i * 4, none⟩) (n + 1 - i) dc, .slice (some ⟨vb, 0, none⟩) 1 1]).run Tryz.prog W1 = .ok (goInt ((1 : Nat) : Int)) (W1.setRow g cur2) := fun ty dc => by
  have h := run_copy_rowN (P := Tryz.prog) W1 122 121 ty 109 4 g (i * 4) (n + 1 - i) dc ⟨vb, 0, none⟩ 1 1 cur1 109 vs Tryz.underlying122 hsz hg1
   (by rw [hvl, show Nat.min 1 (n + 1 - i) = 1 from Nat.min_eq_left (by omega)])
   (fun j v hj => by rw [Addr.add_lit, Nat.zero_add]; exact (hv1.cell j).trans (by simpa using hj))
   (by rw [hvl, hcur1l]; omega) h1
  rw [hcur2, show Nat.min 1 (n + 1 - i) = 1 from Nat.min_eq_left (by omega)] at h
  exact h
 have hfin : (W1.setRow g cur2).ownsRow 0 109 4 (.slice (some ⟨g, 0, none⟩) (n + 1) c) (n + 1) (laid 4 i vs xs) := by
  refine ⟨laid_length hxl hvl (by omega), .inr ⟨g, c, cur2, rfl, Nat.zero_le _, setRow_heap W1 g cur1 _ 109 (0, 0) hg1, hnc, hcm, hcur2l, ?_⟩⟩
  rw [← hcur2, ← hcur1]
  have := laid_cur (i := i) (vs := vs) (cur := cur.toList) hxl hvl (by omega) (by rw [Array.length_toList, hcs]; exact hck) hct
  simpa using this
 have Hfin := hide (And.intro hfin (grown_setRow (t := 109) (cur := cur2) hgr1))
 clear hcur1 hcur2 hg1 hgr1 hv1 hcur1l hcur2l hfin hct hcs hg hv h1 h2 hdl hsz hck hcm hxl hW1
 have hi' : (i : Int) < (n : Int) := by omega
 have hz2 : ¬ ((i : Int) = (n : Int)) := by omega
 have hi0 : (0 : Int) ≤ (i : Int) := Int.natCast_nonneg _
 have hb2 : ¬ (c = i + 1) := by omega
 have hb4 : ¬ (c = i) := by omega
 have hw1 : IntKind.i64.wrap ((i : Int) + 1) = (i : Int) + 1 := IntWalk.i64_in _ (by omega)
 have hw2 : IntKind.i64.wrap ((n : Int) + 1) = (n : Int) + 1 := IntWalk.i64_in _ (by omega)
 have hcap : ¬ (c : Int) < (n : Int) + 1 := by omega
 have htn : ((i : Int) + 1).toNat = i + 1 := by omega
 have htn2 : ((n : Int) + 1).toNat = n + 1 := by omega
 have hle : (i : Int) ≤ (n : Int) + 1 := by omega
 have hle2 : (i : Int) + 1 ≤ (n : Int) + 1 := by omega
 have hle3 : (n : Int) + 1 ≤ (c : Int) := by omega
 have hle4 : (i : Int) ≤ (n : Int) := by omega
 have hnn : (0 : Int) ≤ (n : Int) + 1 := by omega
 have hii : (0 : Int) ≤ (i : Int) + 1 := by omega
 go_enter Tryz.func184, Tryz.ntmps184
 go_wp2_with (simp only [hov])
 go_still_tail 8, (by kernel_rfl)
 change wpList _ _ _ _ _ w.drew
 go_wp2_with (at_builtin; refine wpList_copy_eq _ rfl _ _ 122 122 rfl _ _ rfl rfl (hcp1 _ _ _) ?_)
 go_wp2_with (at_builtin; refine wpList_copy_eq _ rfl _ _ 122 121 rfl _ _ rfl rfl (hcp2 _ _) ?_)
 go_ret
 exact ⟨_, rfl, Hfin.out.1, Hfin.out.2, .inl rfl⟩

set_option maxRecDepth 100000 in
set_option maxHeartbeats 4000000 in
theorem insertE_grow {n i vb g : Nat} {xs vs : List Value} {cur : Array Value} {w : World} (hg : w.heap[g]? = some (.cells cur 109 (0, 0))) (hcm : n ≤ maxLen) (hcs : cur.size = n * 4) (hct : cur.toList.take (n * 4) = xs) (hxl : xs.length = n * 4) (hi : i < n)
  (hv : Bk w vb 109 vs.toArray) (hvl : vs.length = 4) (h1 : ∀ u ∈ vs, u.oneCell' = true) (h2 : ∀ u ∈ xs, u.oneCell' = true) (hn : (n + 1) * 32 ≤ 140737488355328) :
  Calls Tryz.prog 184 #[.slice (some ⟨g, 0, none⟩) n n, .int .i64 (i : Int), .slice (some ⟨vb, 0, none⟩) 1 1] w (InsPost w 109 4 n (.slice (some ⟨g, 0, none⟩) n n) (laid 4 i vs xs)) := by
 have hsz : (Tryz.prog.info? 109).map (·.size) = some 4 := by kernel_rfl
 have hgl : g < w.heap.size := (Array.getElem?_eq_some_iff.1 hg).1
 have hn' : n ≤ 4398046511104 := by omega
 obtain ⟨i0, hi0, hz0, hs0, hb0⟩ : ∃ i, Tryz.prog.info? 109 = some i ∧ (∃ z, i.zero = some z ∧ z.cells.size = 4) ∧ i.size = 4 ∧ i.bytes = 32 := by
  refine ⟨_, rfl, ⟨_, rfl, by kernel_rfl⟩, by kernel_rfl, by kernel_rfl⟩
 obtain ⟨z, hz, hzc⟩ := hz0
 have hdl : (xs.drop (i * 4)).length = (n - i) * 4 := by rw [List.length_drop, hxl]; omega
 have htl : (xs.take (i * 4)).length = i * 4 := by rw [List.length_take, hxl]; omega
 have hold : (Builtin.firstCells i0.size i (.slice (some ⟨g, 0, none⟩) i n)).run Tryz.prog w.drew = .ok (xs.take (i * 4)).toArray w.drew := by
  rw [hs0]
  refine run_firstCells_some (P := Tryz.prog) w.drew 4 i ⟨g, 0, none⟩ i n (xs.take (i * 4)) htl fun j v hj => ?_
  rw [Addr.add_lit, Nat.zero_add]
  show w.cell? _ = _
  unfold World.cell?
  rw [hg]
  simp only
  rw [List.getElem?_take] at hj
  split at hj
  ·rw [← hct, List.getElem?_take] at hj
   split at hj
   ·simpa using hj
   ·cases hj
  ·cases hj
 have q1 := Lib.run_append_grow_zeros (P := Tryz.prog) w 122 3 122 109 i0 z .i64 .i64 Tryz.underlying122 Tryz.underlying3 hi0 hz (some ⟨g, 0, none⟩) i n (xs.take (i * 4)) hold (n + 1 - i) (by omega) (by rw [hs0]; decide) (by omega) (by omega) (by rw [hb0]; omega)
  (by rw [hb0]; exact growslice_fits (by omega) (by rw [show i + (n + 1 - i) = n + 1 from by omega]; exact hn))
 rw [show i + (n + 1 - i) = n + 1 from by omega] at q1
 have hC1 := grownCap_ge w (n + 1) n 109
 have hC2 := grownCap_le_maxLen w (n + 1) n 109 (by unfold maxLen; omega)
 generalize grownCap w (n + 1) n 109 = C at q1 hC1 hC2
 obtain ⟨row0, hrow0⟩ : ∃ row0 : Array Value, (xs.take (i * 4)).toArray ++ Builtin.zeroCells z.cells (n + 1 - i) ++ Builtin.zeroCells z.cells (C - (n + 1)) = row0 := ⟨_, rfl⟩
 rw [hrow0] at q1
 have hr0l : row0.size = C * 4 := by rw [← hrow0]; simp only [Array.size_append, size_zeroCells, hzc, List.size_toArray, htl]; omega
 have hr0t : row0.toList.take (i * 4) = xs.take (i * 4) := by
  rw [← hrow0, Array.toList_append, Array.toList_append, List.append_assoc, List.take_left' (by simpa using htl)]
 obtain ⟨B, hB⟩ : ∃ B, w.heap.size = B := ⟨_, rfl⟩
 obtain ⟨W1, hW1⟩ : ∃ W1, w.drew.alloc (.cells row0 109) = W1 := ⟨_, rfl⟩
 rw [hW1, hB] at q1
 have hg1 : W1.heap[B]? = some (.cells row0 109 (0, 0)) := by rw [← hW1, ← hB]; exact heap_alloc_new w.drew _
 have hgr1 : w.grownBy W1 (some g) := by rw [← hW1]; exact grown_alloc (grown_drew (World.grownBy.refl w.drew _))
 have hvB : vb ≠ B := by have := hv.lt; omega
 have hvW : Bk W1 vb 109 vs.toArray := by rw [← hW1]; exact (hv.drew).alloc _
 -- the two copies
 obtain ⟨cur1, hcur1⟩ : ∃ cur1 : Array Value, (row0.toList.take (i * 4) ++ vs ++ row0.toList.drop (i * 4 + vs.length)).toArray = cur1 := ⟨_, rfl⟩
 have hcur1l : cur1.size = C * 4 := by rw [← hcur1]; simp [hvl, hr0l]; omega
 have hcp1 : ∀ ty dc, (Builtin.copy_ #[122, 121] ty #[.slice (some ⟨B, i * 4, none⟩) (n + 1 - i) dc, .slice (some ⟨vb, 0, none⟩) 1 1]).run Tryz.prog W1 = .ok (goInt ((1 : Nat) : Int)) (W1.setRow B cur1) := fun ty dc => by
  have h := run_copy_rowN (P := Tryz.prog) W1 122 121 ty 109 4 B (i * 4) (n + 1 - i) dc ⟨vb, 0, none⟩ 1 1 row0 109 vs Tryz.underlying122 hsz hg1
   (by rw [hvl, show Nat.min 1 (n + 1 - i) = 1 from Nat.min_eq_left (by omega)])
   (fun j v hj => by rw [Addr.add_lit, Nat.zero_add]; exact (hvW.cell j).trans (by simpa using hj))
   (by rw [hvl, hr0l]; omega) h1
  rw [hcur1, show Nat.min 1 (n + 1 - i) = 1 from Nat.min_eq_left (by omega)] at h
  exact h
 obtain ⟨W2, hW2⟩ : ∃ W2, W1.setRow B cur1 = W2 := ⟨_, rfl⟩
 rw [hW2] at hcp1
 have hg2 : W2.heap[B]? = some (.cells cur1 109 (0, 0)) := by rw [← hW2]; exact setRow_heap W1 B row0 _ 109 (0, 0) hg1
 have hgr2 : w.grownBy W2 (some g) := by rw [← hW2]; exact grown_setRowNew hgr1 (by omega)
 have hgW : W2.heap[g]? = some (.cells cur 109 (0, 0)) := by
  rw [← hW2, ← hW1]
  have hne : B ≠ g := by omega
  have : (w.drew.alloc (.cells row0 109)).heap[g]? = some (.cells cur 109 (0, 0)) := (Below.heap_alloc w.drew _ g hgl).trans hg
  simp only [World.setRow, Array.getElem?_modify, hne, if_false]
  exact this
 obtain ⟨cur2, hcur2⟩ : ∃ cur2 : Array Value, (cur1.toList.take ((i + 1) * 4) ++ xs.drop (i * 4) ++ cur1.toList.drop ((i + 1) * 4 + (xs.drop (i * 4)).length)).toArray = cur2 := ⟨_, rfl⟩
 have hcur2l : cur2.size = C * 4 := by rw [← hcur2]; simp [hdl, hcur1l]; omega
 have hcp2 : ∀ ty dc sc, (Builtin.copy_ #[122, 122] ty #[.slice (some ⟨B, (i + 1) * 4, none⟩) (n - i) dc, .slice (some ⟨g, i * 4, none⟩) (n - i) sc]).run Tryz.prog W2.drew = .ok (goInt ((n - i : Nat) : Int)) (W2.drew.setRow B cur2) := fun ty dc sc => by
  have h := run_copy_rowN (P := Tryz.prog) W2.drew 122 122 ty 109 4 B ((i + 1) * 4) (n - i) dc ⟨g, i * 4, none⟩ (n - i) sc cur1 109 (xs.drop (i * 4)) Tryz.underlying122 hsz hg2
   (by rw [hdl, show Nat.min (n - i) (n - i) = n - i from Nat.min_eq_left (by omega)])
   (fun j v hj => by
    rw [List.getElem?_drop] at hj
    rw [Addr.add_lit]
    show W2.cell? _ = _
    unfold World.cell?
    rw [hgW]
    simp only
    rw [← hct, List.getElem?_take] at hj
    split at hj
    ·simpa using hj
    ·cases hj)
   (by rw [hdl, hcur1l]; omega) (fun u hu => h2 u (List.mem_of_mem_drop hu))
  rw [hcur2, show Nat.min (n - i) (n - i) = n - i from Nat.min_eq_left (by omega)] at h
  exact h
 have hfin : (W2.drew.setRow B cur2).ownsRow 0 109 4 (.slice (some ⟨B, 0, none⟩) (n + 1) C) (n + 1) (laid 4 i vs xs) := by
  refine ⟨laid_length hxl hvl (by omega), .inr ⟨B, C, cur2, rfl, Nat.zero_le _, setRow_heap W2.drew B cur1 _ 109 (0, 0) hg2, hC1, hC2, hcur2l, ?_⟩⟩
  rw [← hcur2, ← hcur1]
  have := laid_grow (row0 := row0.toList) hxl hvl (by omega) hr0t (by rw [Array.length_toList, hr0l]; omega)
  simpa using this
 have hgr3 : w.grownBy (W2.drew.setRow B cur2) (some g) := grown_setRowNew ⟨hgr2.os, hgr2.tape, hgr2.output, hgr2.size, hgr2.block⟩ (by omega)
 have Hfin := hide (And.intro hfin (And.intro hgr3 (Nat.le_of_eq hB)))
 have hC2' : C ≤ 9223372036854775807 := hC2
 clear hcur1 hcur2 hg1 hg2 hgr1 hgr2 hgr3 hvW hvB hgW hgl hcur1l hcur2l hr0l hr0t hrow0 hfin hct hcs hg hv h1 h2 hdl htl hsz hcm hxl hW1 hW2 hB hold hi0 hz hs0 hb0 hzc hC2 hn
 have hi' : (i : Int) < (n : Int) := by omega
 have hz2 : ¬ ((i : Int) = (n : Int)) := by omega
 have hi0 : (0 : Int) ≤ (i : Int) := Int.natCast_nonneg _
 have hb2 : ¬ (C = i + 1) := by omega
 have hb4 : ¬ (C = i) := by omega
 have hb5 : ¬ (n = i) := by omega
 have hw1 : IntKind.i64.wrap ((i : Int) + 1) = (i : Int) + 1 := IntWalk.i64_in _ (by omega)
 have hw2 : IntKind.i64.wrap ((n : Int) + 1) = (n : Int) + 1 := IntWalk.i64_in _ (by omega)
 have hw3 : IntKind.i64.wrap ((n : Int) + 1 - (i : Int)) = ((n + 1 - i : Nat) : Int) := by rw [IntWalk.i64_in _ (by omega)]; omega
 have hcap : (n : Int) < (n : Int) + 1 := by omega
 have htn : ((i : Int) + 1).toNat = i + 1 := by omega
 have htn2 : ((n : Int) + 1).toNat = n + 1 := by omega
 have hle : (i : Int) ≤ (n : Int) + 1 := by omega
 have hle2 : (i : Int) + 1 ≤ (n : Int) + 1 := by omega
 have hle3 : (n : Int) + 1 ≤ (C : Int) := by omega
 have hle4 : (i : Int) ≤ (n : Int) := by omega
 have hnn : (0 : Int) ≤ (n : Int) + 1 := by omega
 have hii : (0 : Int) ≤ (i : Int) + 1 := by omega
 go_enter Tryz.func184, Tryz.ntmps184
 go_wp2_with (at_builtin; first | (refine Lib.wpList_append_run _ rfl _ _ _ _ rfl _ _ rfl rfl _ _ q1 ?_) | (refine wpList_copy_eq _ rfl _ _ 122 121 rfl _ _ rfl rfl (hcp1 _ _) ?_))
 go_still_tail 8, (by kernel_rfl)
 change wpList _ _ _ _ _ W2.drew
 go_wp2_with (at_builtin; refine wpList_copy_eq _ rfl _ _ 122 122 rfl _ _ rfl rfl (hcp2 _ _ _) ?_)
 go_ret
 exact ⟨_, rfl, Hfin.out.1, Hfin.out.2.1, .inr ⟨_, rfl, Hfin.out.2.2⟩⟩

theorem insertE_calls {n i vb : Nat} {s : Value} {xs vs : List Value} {w : World} (hown : w.ownsRow 0 109 4 s n xs) (hi : i ≤ n)
  (hv : Bk w vb 109 vs.toArray) (hvl : vs.length = 4) (h1 : ∀ u ∈ vs, u.oneCell' = true) (h2 : ∀ u ∈ xs, u.oneCell' = true) (hvb : s.ownBlock ≠ some vb) (hn : (n + 1) * 32 ≤ 140737488355328) :
  Calls Tryz.prog 184 #[s, .int .i64 (i : Int), .slice (some ⟨vb, 0, none⟩) 1 1] w (InsPost w 109 4 n s (laid 4 i vs xs)) := by
 by_cases he : i = n
 ·subst he
  exact insertE_end hown hv hvl h1 hn
 ·obtain ⟨hxl, ⟨rfl, h0⟩ | ⟨g, c, cur, rfl, _, hg, hnc, hcm, hcs, hct⟩⟩ := hown
  ·omega
  ·by_cases hr : n + 1 ≤ c
   ·exact insertE_shift hg hr hcm hcs hct hxl (by omega) hv hvl h1 h2 (fun e => hvb (by rw [e]; rfl))
   ·have : c = n := by omega
    subst this
    exact insertE_grow hg hcm hcs hct hxl (by omega) hv hvl h1 h2 hn

set_option maxRecDepth 100000 in
set_option maxHeartbeats 4000000 in
theorem insertK_end {n vb : Nat} {s : Value} {xs vs : List Value} {w : World} (hown : w.ownsRow 0 214 5 s n xs) (hv : Bk w vb 214 vs.toArray) (hvl : vs.length = 5) (h1 : ∀ u ∈ vs, u.oneCell' = true) (hn : (n + 1) * 40 ≤ 140737488355328) :
  Calls Tryz.prog 125 #[s, .int .i64 (n : Int), .slice (some ⟨vb, 0, none⟩) 1 1] w (InsPost w 214 5 n s (laid 5 n vs xs)) := by
 obtain ⟨i0, hi0, hz0, hs0, hb0⟩ : ∃ i, Tryz.prog.info? 214 = some i ∧ (∃ z, i.zero = some z ∧ z.cells.size = 5) ∧ i.size = 5 ∧ i.bytes = 40 := by
  refine ⟨_, rfl, ⟨_, rfl, by kernel_rfl⟩, by kernel_rfl, by kernel_rfl⟩
 obtain ⟨z, hz, hzc⟩ := hz0
 obtain ⟨v', w', q1, q2, q3, q5⟩ := run_append_row (P := Tryz.prog) w 0 126 126 214 i0 z 5 40 Tryz.underlying126 hi0 hz hs0 hb0 hzc (by omega) s n xs hown (fun _ => True) (some ⟨vb, 0, none⟩) 1 1 vs (Row.of_bki hv (by simp [hvl]) trivial) h1 hn (by omega) (Nat.zero_le _)
 rw [← run_append_types 126 125 214 214 126 Tryz.underlying126 Tryz.underlying125] at q1
 have hxl : xs.length = n * 5 := hown.1
 have hlaid : laid 5 n vs xs = xs ++ vs := by
  unfold laid
  rw [List.take_of_length_le (by omega), List.drop_eq_nil_of_le (by omega), List.append_nil]
 rw [hlaid]
 have Hfin := hide (And.intro q2 (And.intro q3 q5))
 obtain ⟨A, c, rfl, hc1, hc2⟩ := own_form hown
 have hc2' : c ≤ 9223372036854775807 := hc2
 have hn' : n ≤ 4398046511104 := by omega
 clear hown hv hvl h1 hn q2 q3 q5 hxl hlaid hi0 hz hs0 hb0 hzc hc2
 by_cases hcn : c = n
 ·subst hcn
  go_enter Tryz.func125, Tryz.ntmps125
  go_wp2_with (at_builtin; refine Lib.wpList_append_run _ rfl _ _ _ _ rfl _ _ rfl rfl _ _ q1 ?_)
  go_ret
  exact ⟨v', rfl, Hfin.out.1, Hfin.out.2.1, Hfin.out.2.2.imp id fun e => ⟨_, e, Nat.le_refl _⟩⟩
 ·go_enter Tryz.func125, Tryz.ntmps125
  go_wp2_with (at_builtin; refine Lib.wpList_append_run _ rfl _ _ _ _ rfl _ _ rfl rfl _ _ q1 ?_)
  go_ret
  exact ⟨v', rfl, Hfin.out.1, Hfin.out.2.1, Hfin.out.2.2.imp id fun e => ⟨_, e, Nat.le_refl _⟩⟩

set_option maxRecDepth 100000 in
set_option maxHeartbeats 4000000 in
theorem insertK_shift {n i vb g c : Nat} {xs vs : List Value} {cur : Array Value} {w : World} (hg : w.heap[g]? = some (.cells cur 214 (0, 0))) (hnc : n + 1 ≤ c) (hcm : c ≤ maxLen) (hcs : cur.size = c * 5) (hct : cur.toList.take (n * 5) = xs) (hxl : xs.length = n * 5) (hi : i < n)
  (hv : Bk w vb 214 vs.toArray) (hvl : vs.length = 5) (h1 : ∀ u ∈ vs, u.oneCell' = true) (h2 : ∀ u ∈ xs, u.oneCell' = true) (hvb : vb ≠ g) :
  Calls Tryz.prog 125 #[.slice (some ⟨g, 0, none⟩) n c, .int .i64 (i : Int), .slice (some ⟨vb, 0, none⟩) 1 1] w (InsPost w 214 5 n (.slice (some ⟨g, 0, none⟩) n c) (laid 5 i vs xs)) := by
 have hcm' : c ≤ 9223372036854775807 := hcm
 have hsz : (Tryz.prog.info? 214).map (·.size) = some 5 := by kernel_rfl
 have hdl : (xs.drop (i * 5)).length = (n - i) * 5 := by rw [List.length_drop, hxl]; omega
 have hck : (n + 1) * 5 ≤ c * 5 := Nat.mul_le_mul_right _ hnc
 -- the overlap
 have hov : ∀ lb cb, (callFunc 180 #[.slice (some ⟨vb, 0, none⟩) 1 1, .slice (some ⟨g, (i + 1) * 5, none⟩) lb cb]).run Tryz.prog w = .ok (.value (.bool false)) w := fun lb cb => by
  rw [run_callFunc_extern Tryz.func180 (by kernel_rfl) (by kernel_rfl) (by kernel_rfl) (e := Extern.SlicesOverlaps.overlaps #[125, 125] #[4]) (by kernel_rfl),
   Lib.run_overlaps_apart w 125 4 214 Tryz.underlying125 5 (fun w => by kernel_rfl) ⟨vb, 0, none⟩ ⟨g, (i + 1) * 5, none⟩ 1 1 lb cb hvb 214 214 5 (c * 5) (by unfold World.shape?; rw [show w.heap[vb]? = _ from hv]; simp [hvl]) (by unfold World.shape?; rw [hg]; simp [hcs]) (by omega) (hv.free _) (hv.free _)]
  rfl
 -- the two copies
 obtain ⟨cur1, hcur1⟩ : ∃ cur1 : Array Value, (cur.toList.take ((i + 1) * 5) ++ xs.drop (i * 5) ++ cur.toList.drop ((i + 1) * 5 + (xs.drop (i * 5)).length)).toArray = cur1 := ⟨_, rfl⟩
 have hcur1l : cur1.size = c * 5 := by rw [← hcur1]; simp [hdl, hcs]; omega
 have hcp1 : ∀ ty dc sc, (Builtin.copy_ #[126, 126] ty #[.slice (some ⟨g, (i + 1) * 5, none⟩) (n - i) dc, .slice (some ⟨g, i * 5, none⟩) (n + 1 - i) sc]).run Tryz.prog w.drew = .ok (goInt ((n - i : Nat) : Int)) (w.drew.setRow g cur1) := fun ty dc sc => by
  have h := run_copy_rowN (P := Tryz.prog) w.drew 126 126 ty 214 5 g ((i + 1) * 5) (n - i) dc ⟨g, i * 5, none⟩ (n + 1 - i) sc cur 214 (xs.drop (i * 5)) Tryz.underlying126 hsz hg
   (by rw [hdl, show Nat.min (n + 1 - i) (n - i) = n - i from Nat.min_eq_right (by omega)])
   (fun j v hj => by
    rw [List.getElem?_drop] at hj
    rw [Addr.add_lit]
    show w.cell? _ = _
    unfold World.cell?
    rw [hg]
    simp only
    have hjl := (List.getElem?_eq_some_iff.1 hj).1
    rw [← hct, List.getElem?_take] at hj
    split at hj
    ·simpa using hj
    ·cases hj)
   (by rw [hdl, hcs]; omega) (fun u hu => h2 u (List.mem_of_mem_drop hu))
  rw [hcur1, show Nat.min (n + 1 - i) (n - i) = n - i from Nat.min_eq_right (by omega)] at h
  exact h
 obtain ⟨W1, hW1⟩ : ∃ W1, w.drew.setRow g cur1 = W1 := ⟨_, rfl⟩
 rw [hW1] at hcp1
 have hg1 : W1.heap[g]? = some (.cells cur1 214 (0, 0)) := by rw [← hW1]; exact setRow_heap w.drew g cur _ 214 (0, 0) hg
 have hgr1 : w.grownBy W1 (some g) := by rw [← hW1]; exact grown_setRow (t := 214) (grown_drew (World.grownBy.refl w.drew _))
 have hv1 : Bk W1 vb 214 vs.toArray := hv.grown hgr1 (fun e => hvb (Option.some.inj e))
 obtain ⟨cur2, hcur2⟩ : ∃ cur2 : Array Value, (cur1.toList.take (i * 5) ++ vs ++ cur1.toList.drop (i * 5 + vs.length)).toArray = cur2 := ⟨_, rfl⟩
 have hcur2l : cur2.size = c * 5 := by rw [← hcur2]; simp [hvl, hcur1l]; omega
 have hcp2 : ∀ ty dc, (Builtin.copy_ #[126, 125] ty #[.slice (some ⟨g, i * 5, none⟩) (n + 1 - i) dc, .slice (some ⟨vb, 0, none⟩) 1 1]).run Tryz.prog W1 = .ok (goInt ((1 : Nat) : Int)) (W1.setRow g cur2) := fun ty dc => by
  have h := run_copy_rowN (P := Tryz.prog) W1 126 125 ty 214 5 g (i * 5) (n + 1 - i) dc ⟨vb, 0, none⟩ 1 1 cur1 214 vs Tryz.underlying126 hsz hg1
   (by rw [hvl, show Nat.min 1 (n + 1 - i) = 1 from Nat.min_eq_left (by omega)])
   (fun j v hj => by rw [Addr.add_lit, Nat.zero_add]; exact (hv1.cell j).trans (by simpa using hj))
   (by rw [hvl, hcur1l]; omega) h1
  rw [hcur2, show Nat.min 1 (n + 1 - i) = 1 from Nat.min_eq_left (by omega)] at h
  exact h
 have hfin : (W1.setRow g cur2).ownsRow 0 214 5 (.slice (some ⟨g, 0, none⟩) (n + 1) c) (n + 1) (laid 5 i vs xs) := by
  refine ⟨laid_length hxl hvl (by omega), .inr ⟨g, c, cur2, rfl, Nat.zero_le _, setRow_heap W1 g cur1 _ 214 (0, 0) hg1, hnc, hcm, hcur2l, ?_⟩⟩
  rw [← hcur2, ← hcur1]
  have := laid_cur (i := i) (vs := vs) (cur := cur.toList) hxl hvl (by omega) (by rw [Array.length_toList, hcs]; exact hck) hct
  simpa using this
 have Hfin := hide (And.intro hfin (grown_setRow (t := 214) (cur := cur2) hgr1))
 clear hcur1 hcur2 hg1 hgr1 hv1 hcur1l hcur2l hfin hct hcs hg hv h1 h2 hdl hsz hck hcm hxl hW1
 have hi' : (i : Int) < (n : Int) := by omega
 have hz2 : ¬ ((i : Int) = (n : Int)) := by omega
 have hi0 : (0 : Int) ≤ (i : Int) := Int.natCast_nonneg _
 have hb2 : ¬ (c = i + 1) := by omega
 have hb4 : ¬ (c = i) := by omega
 have hw1 : IntKind.i64.wrap ((i : Int) + 1) = (i : Int) + 1 := IntWalk.i64_in _ (by omega)
 have hw2 : IntKind.i64.wrap ((n : Int) + 1) = (n : Int) + 1 := IntWalk.i64_in _ (by omega)
 have hcap : ¬ (c : Int) < (n : Int) + 1 := by omega
 have htn : ((i : Int) + 1).toNat = i + 1 := by omega
 have htn2 : ((n : Int) + 1).toNat = n + 1 := by omega
 have hle : (i : Int) ≤ (n : Int) + 1 := by omega
 have hle2 : (i : Int) + 1 ≤ (n : Int) + 1 := by omega
 have hle3 : (n : Int) + 1 ≤ (c : Int) := by omega
 have hle4 : (i : Int) ≤ (n : Int) := by omega
 have hnn : (0 : Int) ≤ (n : Int) + 1 := by omega
 have hii : (0 : Int) ≤ (i : Int) + 1 := by omega
 go_enter Tryz.func125, Tryz.ntmps125
 go_wp2_with (simp only [hov])
 go_still_tail 8, (by kernel_rfl)
 change wpList _ _ _ _ _ w.drew
 go_wp2_with (at_builtin; refine wpList_copy_eq _ rfl _ _ 126 126 rfl _ _ rfl rfl (hcp1 _ _ _) ?_)
 go_wp2_with (at_builtin; refine wpList_copy_eq _ rfl _ _ 126 125 rfl _ _ rfl rfl (hcp2 _ _) ?_)
 go_ret
 exact ⟨_, rfl, Hfin.out.1, Hfin.out.2, .inl rfl⟩

set_option maxRecDepth 100000 in
set_option maxHeartbeats 4000000 in
theorem insertK_grow {n i vb g : Nat} {xs vs : List Value} {cur : Array Value} {w : World} (hg : w.heap[g]? = some (.cells cur 214 (0, 0))) (hcm : n ≤ maxLen) (hcs : cur.size = n * 5) (hct : cur.toList.take (n * 5) = xs) (hxl : xs.length = n * 5) (hi : i < n)
  (hv : Bk w vb 214 vs.toArray) (hvl : vs.length = 5) (h1 : ∀ u ∈ vs, u.oneCell' = true) (h2 : ∀ u ∈ xs, u.oneCell' = true) (hn : (n + 1) * 40 ≤ 140737488355328) :
  Calls Tryz.prog 125 #[.slice (some ⟨g, 0, none⟩) n n, .int .i64 (i : Int), .slice (some ⟨vb, 0, none⟩) 1 1] w (InsPost w 214 5 n (.slice (some ⟨g, 0, none⟩) n n) (laid 5 i vs xs)) := by
 have hsz : (Tryz.prog.info? 214).map (·.size) = some 5 := by kernel_rfl
 have hgl : g < w.heap.size := (Array.getElem?_eq_some_iff.1 hg).1
 have hn' : n ≤ 4398046511104 := by omega
 obtain ⟨i0, hi0, hz0, hs0, hb0⟩ : ∃ i, Tryz.prog.info? 214 = some i ∧ (∃ z, i.zero = some z ∧ z.cells.size = 5) ∧ i.size = 5 ∧ i.bytes = 40 := by
  refine ⟨_, rfl, ⟨_, rfl, by kernel_rfl⟩, by kernel_rfl, by kernel_rfl⟩
 obtain ⟨z, hz, hzc⟩ := hz0
 have hdl : (xs.drop (i * 5)).length = (n - i) * 5 := by rw [List.length_drop, hxl]; omega
 have htl : (xs.take (i * 5)).length = i * 5 := by rw [List.length_take, hxl]; omega
 have hold : (Builtin.firstCells i0.size i (.slice (some ⟨g, 0, none⟩) i n)).run Tryz.prog w.drew = .ok (xs.take (i * 5)).toArray w.drew := by
  rw [hs0]
  refine run_firstCells_some (P := Tryz.prog) w.drew 5 i ⟨g, 0, none⟩ i n (xs.take (i * 5)) htl fun j v hj => ?_
  rw [Addr.add_lit, Nat.zero_add]
  show w.cell? _ = _
  unfold World.cell?
  rw [hg]
  simp only
  rw [List.getElem?_take] at hj
  split at hj
  ·rw [← hct, List.getElem?_take] at hj
   split at hj
   ·simpa using hj
   ·cases hj
  ·cases hj
 have q1 := Lib.run_append_grow_zeros (P := Tryz.prog) w 126 3 126 214 i0 z .i64 .i64 Tryz.underlying126 Tryz.underlying3 hi0 hz (some ⟨g, 0, none⟩) i n (xs.take (i * 5)) hold (n + 1 - i) (by omega) (by rw [hs0]; decide) (by omega) (by omega) (by rw [hb0]; omega)
  (by rw [hb0]; exact growslice_fits (by omega) (by rw [show i + (n + 1 - i) = n + 1 from by omega]; exact hn))
 rw [show i + (n + 1 - i) = n + 1 from by omega] at q1
 have hC1 := grownCap_ge w (n + 1) n 214
 have hC2 := grownCap_le_maxLen w (n + 1) n 214 (by unfold maxLen; omega)
 generalize grownCap w (n + 1) n 214 = C at q1 hC1 hC2
 obtain ⟨row0, hrow0⟩ : ∃ row0 : Array Value, (xs.take (i * 5)).toArray ++ Builtin.zeroCells z.cells (n + 1 - i) ++ Builtin.zeroCells z.cells (C - (n + 1)) = row0 := ⟨_, rfl⟩
 rw [hrow0] at q1
 have hr0l : row0.size = C * 5 := by rw [← hrow0]; simp only [Array.size_append, size_zeroCells, hzc, List.size_toArray, htl]; omega
 have hr0t : row0.toList.take (i * 5) = xs.take (i * 5) := by
  rw [← hrow0, Array.toList_append, Array.toList_append, List.append_assoc, List.take_left' (by simpa using htl)]
 obtain ⟨B, hB⟩ : ∃ B, w.heap.size = B := ⟨_, rfl⟩
 obtain ⟨W1, hW1⟩ : ∃ W1, w.drew.alloc (.cells row0 214) = W1 := ⟨_, rfl⟩
 rw [hW1, hB] at q1
 have hg1 : W1.heap[B]? = some (.cells row0 214 (0, 0)) := by rw [← hW1, ← hB]; exact heap_alloc_new w.drew _
 have hgr1 : w.grownBy W1 (some g) := by rw [← hW1]; exact grown_alloc (grown_drew (World.grownBy.refl w.drew _))
 have hvB : vb ≠ B := by have := hv.lt; omega
 have hvW : Bk W1 vb 214 vs.toArray := by rw [← hW1]; exact (hv.drew).alloc _
 -- the two copies
 obtain ⟨cur1, hcur1⟩ : ∃ cur1 : Array Value, (row0.toList.take (i * 5) ++ vs ++ row0.toList.drop (i * 5 + vs.length)).toArray = cur1 := ⟨_, rfl⟩
 have hcur1l : cur1.size = C * 5 := by rw [← hcur1]; simp [hvl, hr0l]; omega
 have hcp1 : ∀ ty dc, (Builtin.copy_ #[126, 125] ty #[.slice (some ⟨B, i * 5, none⟩) (n + 1 - i) dc, .slice (some ⟨vb, 0, none⟩) 1 1]).run Tryz.prog W1 = .ok (goInt ((1 : Nat) : Int)) (W1.setRow B cur1) := fun ty dc => by
  have h := run_copy_rowN (P := Tryz.prog) W1 126 125 ty 214 5 B (i * 5) (n + 1 - i) dc ⟨vb, 0, none⟩ 1 1 row0 214 vs Tryz.underlying126 hsz hg1
   (by rw [hvl, show Nat.min 1 (n + 1 - i) = 1 from Nat.min_eq_left (by omega)])
   (fun j v hj => by rw [Addr.add_lit, Nat.zero_add]; exact (hvW.cell j).trans (by simpa using hj))
   (by rw [hvl, hr0l]; omega) h1
  rw [hcur1, show Nat.min 1 (n + 1 - i) = 1 from Nat.min_eq_left (by omega)] at h
  exact h
 obtain ⟨W2, hW2⟩ : ∃ W2, W1.setRow B cur1 = W2 := ⟨_, rfl⟩
 rw [hW2] at hcp1
 have hg2 : W2.heap[B]? = some (.cells cur1 214 (0, 0)) := by rw [← hW2]; exact setRow_heap W1 B row0 _ 214 (0, 0) hg1
 have hgr2 : w.grownBy W2 (some g) := by rw [← hW2]; exact grown_setRowNew hgr1 (by omega)
 have hgW : W2.heap[g]? = some (.cells cur 214 (0, 0)) := by
  rw [← hW2, ← hW1]
  have hne : B ≠ g := by omega
  have : (w.drew.alloc (.cells row0 214)).heap[g]? = some (.cells cur 214 (0, 0)) := (Below.heap_alloc w.drew _ g hgl).trans hg
  simp only [World.setRow, Array.getElem?_modify, hne, if_false]
  exact this
 obtain ⟨cur2, hcur2⟩ : ∃ cur2 : Array Value, (cur1.toList.take ((i + 1) * 5) ++ xs.drop (i * 5) ++ cur1.toList.drop ((i + 1) * 5 + (xs.drop (i * 5)).length)).toArray = cur2 := ⟨_, rfl⟩
 have hcur2l : cur2.size = C * 5 := by rw [← hcur2]; simp [hdl, hcur1l]; omega
 have hcp2 : ∀ ty dc sc, (Builtin.copy_ #[126, 126] ty #[.slice (some ⟨B, (i + 1) * 5, none⟩) (n - i) dc, .slice (some ⟨g, i * 5, none⟩) (n - i) sc]).run Tryz.prog W2.drew = .ok (goInt ((n - i : Nat) : Int)) (W2.drew.setRow B cur2) := fun ty dc sc => by
  have h := run_copy_rowN (P := Tryz.prog) W2.drew 126 126 ty 214 5 B ((i + 1) * 5) (n - i) dc ⟨g, i * 5, none⟩ (n - i) sc cur1 214 (xs.drop (i * 5)) Tryz.underlying126 hsz hg2
   (by rw [hdl, show Nat.min (n - i) (n - i) = n - i from Nat.min_eq_left (by omega)])
   (fun j v hj => by
    rw [List.getElem?_drop] at hj
    rw [Addr.add_lit]
    show W2.cell? _ = _
    unfold World.cell?
    rw [hgW]
    simp only
    rw [← hct, List.getElem?_take] at hj
    split at hj
    ·simpa using hj
    ·cases hj)
   (by rw [hdl, hcur1l]; omega) (fun u hu => h2 u (List.mem_of_mem_drop hu))
  rw [hcur2, show Nat.min (n - i) (n - i) = n - i from Nat.min_eq_left (by omega)] at h
  exact h
 have hfin : (W2.drew.setRow B cur2).ownsRow 0 214 5 (.slice (some ⟨B, 0, none⟩) (n + 1) C) (n + 1) (laid 5 i vs xs) := by
  refine ⟨laid_length hxl hvl (by omega), .inr ⟨B, C, cur2, rfl, Nat.zero_le _, setRow_heap W2.drew B cur1 _ 214 (0, 0) hg2, hC1, hC2, hcur2l, ?_⟩⟩
  rw [← hcur2, ← hcur1]
  have := laid_grow (row0 := row0.toList) hxl hvl (by omega) hr0t (by rw [Array.length_toList, hr0l]; omega)
  simpa using this
 have hgr3 : w.grownBy (W2.drew.setRow B cur2) (some g) := grown_setRowNew ⟨hgr2.os, hgr2.tape, hgr2.output, hgr2.size, hgr2.block⟩ (by omega)
 have Hfin := hide (And.intro hfin (And.intro hgr3 (Nat.le_of_eq hB)))
 have hC2' : C ≤ 9223372036854775807 := hC2
 clear hcur1 hcur2 hg1 hg2 hgr1 hgr2 hgr3 hvW hvB hgW hgl hcur1l hcur2l hr0l hr0t hrow0 hfin hct hcs hg hv h1 h2 hdl htl hsz hcm hxl hW1 hW2 hB hold hi0 hz hs0 hb0 hzc hC2 hn
 have hi' : (i : Int) < (n : Int) := by omega
 have hz2 : ¬ ((i : Int) = (n : Int)) := by omega
 have hi0 : (0 : Int) ≤ (i : Int) := Int.natCast_nonneg _
 have hb2 : ¬ (C = i + 1) := by omega
 have hb4 : ¬ (C = i) := by omega
 have hb5 : ¬ (n = i) := by omega
 have hw1 : IntKind.i64.wrap ((i : Int) + 1) = (i : Int) + 1 := IntWalk.i64_in _ (by omega)
 have hw2 : IntKind.i64.wrap ((n : Int) + 1) = (n : Int) + 1 := IntWalk.i64_in _ (by omega)
 have hw3 : IntKind.i64.wrap ((n : Int) + 1 - (i : Int)) = ((n + 1 - i : Nat) : Int) := by rw [IntWalk.i64_in _ (by omega)]; omega
 have hcap : (n : Int) < (n : Int) + 1 := by omega
 have htn : ((i : Int) + 1).toNat = i + 1 := by omega
 have htn2 : ((n : Int) + 1).toNat = n + 1 := by omega
 have hle : (i : Int) ≤ (n : Int) + 1 := by omega
 have hle2 : (i : Int) + 1 ≤ (n : Int) + 1 := by omega
 have hle3 : (n : Int) + 1 ≤ (C : Int) := by omega
 have hle4 : (i : Int) ≤ (n : Int) := by omega
 have hnn : (0 : Int) ≤ (n : Int) + 1 := by omega
 have hii : (0 : Int) ≤ (i : Int) + 1 := by omega
 go_enter Tryz.func125, Tryz.ntmps125
 go_wp2_with (at_builtin; first | (refine Lib.wpList_append_run _ rfl _ _ _ _ rfl _ _ rfl rfl _ _ q1 ?_) | (refine wpList_copy_eq _ rfl _ _ 126 125 rfl _ _ rfl rfl (hcp1 _ _) ?_))
 go_still_tail 8, (by kernel_rfl)
 change wpList _ _ _ _ _ W2.drew
 go_wp2_with (at_builtin; refine wpList_copy_eq _ rfl _ _ 126 126 rfl _ _ rfl rfl (hcp2 _ _ _) ?_)
 go_ret
 exact ⟨_, rfl, Hfin.out.1, Hfin.out.2.1, .inr ⟨_, rfl, Hfin.out.2.2⟩⟩

theorem insertK_calls {n i vb : Nat} {s : Value} {xs vs : List Value} {w : World} (hown : w.ownsRow 0 214 5 s n xs) (hi : i ≤ n)
  (hv : Bk w vb 214 vs.toArray) (hvl : vs.length = 5) (h1 : ∀ u ∈ vs, u.oneCell' = true) (h2 : ∀ u ∈ xs, u.oneCell' = true) (hvb : s.ownBlock ≠ some vb) (hn : (n + 1) * 40 ≤ 140737488355328) :
  Calls Tryz.prog 125 #[s, .int .i64 (i : Int), .slice (some ⟨vb, 0, none⟩) 1 1] w (InsPost w 214 5 n s (laid 5 i vs xs)) := by
 by_cases he : i = n
 ·subst he
  exact insertK_end hown hv hvl h1 hn
 ·obtain ⟨hxl, ⟨rfl, h0⟩ | ⟨g, c, cur, rfl, _, hg, hnc, hcm, hcs, hct⟩⟩ := hown
  ·omega
  ·by_cases hr : n + 1 ≤ c
   ·exact insertK_shift hg hr hcm hcs hct hxl (by omega) hv hvl h1 h2 (fun e => hvb (by rw [e]; rfl))
   ·have : c = n := by omega
    subst this
    exact insertK_grow hg hcm hcs hct hxl (by omega) hv hvl h1 h2 hn

end Go.Proofs.YtbicoknghdgahaaGreat
