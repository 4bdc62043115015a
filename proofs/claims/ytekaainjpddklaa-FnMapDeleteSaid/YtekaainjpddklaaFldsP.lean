/-
  Plain: the fields of a value; two maps that are equal under each key.
-/
import Derived.Test.YtekaainjpddklaaOneP
set_option linter.unusedVariables false
set_option linter.unusedSimpArgs false
namespace Go.Proofs.Ytekaainjpddklaa
open Go.RowKit

/-! plain: two maps are equal just if they are under each key -/
theorem eqvM_all {l1 l2 : List (ByteArray × T)} (s1 : Sorted l1) (s2 : Sorted l2) : T.eqvM l1 l2 = (bothK l1 l2).all (eqK l1 l2) := by
  rw [Bool.eq_iff_iff, List.all_eq_true]
  have n1 := sorted_nodup s1
  have n2 := sorted_nodup s2
  constructor
  · intro h k hk
    have he := eqvM_keys h
    refine ((eqvM_iff' s1 s2).1 h).2 k ?_
    rcases (mem_mergeK _ _ _).1 hk with hk | hk
    · rw [← he]; exact hk
    · exact hk
  · intro h
    rw [eqvM_iff' s1 s2]
    have g : ∀ k ∈ bothK l1 l2, k ∈ l1.map Prod.fst ∧ k ∈ l2.map Prod.fst := by
      intro k hk
      have := h k hk
      unfold eqK at this
      cases hg : getT l1 k with
      | none => rw [hg] at this; cases this
      | some t =>
        cases hg2 : getT l2 k with
        | none => rw [hg, hg2] at this; cases this
        | some t2 => exact ⟨List.mem_map.2 ⟨_, getT_mem hg, rfl⟩, List.mem_map.2 ⟨_, getT_mem hg2, rfl⟩⟩
    have hp : (l1.map Prod.fst).Perm (l2.map Prod.fst) := (List.perm_ext_iff_of_nodup n1 n2).2 fun k => ⟨fun hk => (g k ((mem_mergeK _ _ _).2 (.inl hk))).2, fun hk => (g k ((mem_mergeK _ _ _).2 (.inr hk))).1⟩
    refine ⟨by simpa using hp.length_eq, fun k hk => h k ((mem_mergeK _ _ _).2 (.inr hk))⟩

theorem flds_length (kd n : Int) (f : Nat) (s : ByteArray) (keys : List ByteArray) (l : List RV) : (RV.mk kd n f s keys l).flds.length ≤ l.length := by
  have := mapOf_take_length keys (l.map RV.tree) l.length
  rw [List.take_of_length_le (l := l.map RV.tree) (by simp)] at this
  rw [RV.flds]
  have h2 := mapOf_take_all keys (l.map RV.tree) l.length (.inr (by simp))
  rw [List.take_of_length_le (l := l.map RV.tree) (by simp)] at h2
  rw [← h2]
  exact this
theorem both_length (l1 l2 : List (ByteArray × T)) (s1 : Sorted l1) (s2 : Sorted l2) : (bothK l1 l2).length ≤ l1.length + l2.length := by
  have h3 := (mergeK_sorted _ _ (sortK_of s1) (sortK_of s2)).nodup.length_le_of_subset (l₂ := l1.map Prod.fst ++ l2.map Prod.fst) (fun k hk => List.mem_append.2 ((mem_mergeK _ _ _).1 hk))
  rw [List.length_append, List.length_map, List.length_map] at h3
  exact h3
theorem flds_sorted (r : RV) : Sorted r.flds := by
  obtain ⟨kd, n, f, s, keys, l⟩ := r
  exact mapOf_sorted _ _
theorem flds_ws (r : RV) {k : ByteArray} {t : T} (h : getT r.flds k = some t) : t.WS := by
  obtain ⟨kd, n, f, s, keys, l⟩ := r
  have := mapOf_mem _ _ _ (getT_mem h)
  obtain ⟨r, _, e⟩ := List.mem_map.1 this
  have e : r.tree = t := e
  rw [← e]
  exact tree_ws r

/-- the reference's plainMap, of every value -/
theorem specPlainMap_all (r : RV) : PlainMapOK r := by
  obtain ⟨kind, n, f, s, keys, l⟩ := r
  exact specPlainMap_ok kind n f s keys l fun r _ => clean_calls r

end Go.Proofs.Ytekaainjpddklaa
