/-
  Plain: plain forms of trees taken apart again; a map with one field more.
-/
import Derived.Test.YtajeghkjppkhcaaGreatMapsA
set_option linter.unusedVariables false
set_option linter.unusedSimpArgs false
namespace Go.Proofs.YtajeghkjppkhcaaGreat

theorem ins_last {α : Type} (k : ByteArray) (v : α) (m : List (ByteArray × α)) (h : ∀ p ∈ m, klt p.1 k = true) : ins k v m = m ++ [(k, v)] := by
  induction m with
  | nil => rfl
  | cons p m ih =>
    rw [ins, if_pos (h p (by simp)), ih fun q hq => h q (by simp [hq])]
    rfl
theorem foldl_ins_id {α : Type} (l m : List (ByteArray × α)) (h : Sorted (m ++ l)) : l.foldl (fun m p => ins p.1 p.2 m) m = m ++ l := by
  induction l generalizing m with
  | nil => simp
  | cons p l ih =>
    have hp : ∀ q ∈ m, klt q.1 p.1 = true := fun q hq => (List.pairwise_append.1 h).2.2 q hq p (by simp)
    rw [List.foldl_cons, ins_last _ _ _ hp]
    have e : m ++ p :: l = (m ++ [p]) ++ l := by simp
    rw [e] at h ⊢
    exact ih _ h
theorem mapOf_id {α : Type} {l : List (ByteArray × α)} (h : Sorted l) : mapOf (l.map Prod.fst) (l.map Prod.snd) = l := by
  unfold mapOf
  have e : (l.map Prod.fst).zip (l.map Prod.snd) = l := by
    clear h
    induction l with
    | nil => rfl
    | cons p l ih => simp [ih]
  rw [e]
  exact foldl_ins_id l [] h

/-- all maps in it are in order -/
inductive T.WS : T → Prop
  | null : WS .null
  | bool (b : Bool) : WS (.bool b)
  | int (n : Int) : WS (.int n)
  | flt (f : Nat) : WS (.flt f)
  | str (s : ByteArray) : WS (.str s)
  | list {l : List T} : (∀ t ∈ l, WS t) → WS (.list l)
  | map {l : List (ByteArray × T)} : Sorted l → (∀ k t, (k, t) ∈ l → WS t) → WS (.map l)

theorem tree_ws (r : RV) : r.tree.WS := by
  induction hrk : r.rank using Nat.strongRecOn generalizing r with
  | ind m ih =>
  subst hrk
  obtain ⟨kind, n, f, s, keys, l⟩ := r
  have hl : ∀ t ∈ RV.treeL l, T.WS t := by
    intro t ht
    rw [treeL_eq] at ht
    obtain ⟨r, hr, rfl⟩ := List.mem_map.1 ht
    exact ih _ (RV.rank_lt hr) r rfl
  rw [RV.tree]
  split
  · exact .bool _
  · split
    · exact .int _
    · split
      · exact .flt _
      · split
        · exact .str _
        · split
          · exact .list hl
          · split
            · exact .map (mapOf_sorted _ _) fun k t ht => hl t (mapOf_mem _ _ _ ht)
            · exact .null

theorem toRV_tree {t : T} (h : t.WS) : t.toRV.tree = t := by
  induction h with
  | null => simp [T.toRV, RV.tree]
  | bool b => cases b <;> simp [T.toRV, RV.tree]
  | int n => simp [T.toRV, RV.tree]
  | flt f => simp [T.toRV, RV.tree]
  | str s => simp [T.toRV, RV.tree]
  | @list l h ih =>
    rw [T.toRV, RV.tree, treeL_eq, toRVL_eq, List.map_map]
    have e : l.map (RV.tree ∘ T.toRV) = l := by
      rw [List.map_congr_left (f := RV.tree ∘ T.toRV) (g := id) (fun t ht => ih t ht), List.map_id]
    rw [e]
    simp
  | @map l hs h ih =>
    rw [T.toRV, RV.tree, treeL_eq, toRVM_eq, List.map_map]
    have e : l.map (RV.tree ∘ fun p => p.2.toRV) = l.map Prod.snd := List.map_congr_left fun p hp => ih p.1 p.2 hp
    rw [e, mapOf_id hs]
    simp
end Go.Proofs.YtajeghkjppkhcaaGreat
