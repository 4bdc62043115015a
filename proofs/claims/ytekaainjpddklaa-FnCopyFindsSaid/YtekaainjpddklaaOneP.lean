/-
  Plain: plain forms of trees taken apart again; a map with one field more.
-/
import Derived.Test.YtekaainjpddklaaMapsI
set_option linter.unusedVariables false
set_option linter.unusedSimpArgs false
namespace Go.Proofs.Ytekaainjpddklaa

theorem ins_last {α : Type} (k : ByteArray) (v : α) (m : List (ByteArray × α)) (h : ∀ p ∈ m, klt p.1 k = true) : ins k v m = m ++ [(k, v)] := by
  induction m with
  | nil => rfl
  | cons p m ih =>
    rw [ins, if_pos (h p (by simp)), ih fun q hq => h q (by simp [hq])]
    rfl
theorem foldl_ins_id {α : Type} (l m : List (ByteArray × α)) (h : Sorted (m ++ l)) : l.foldl (fun m p => ins p.1 p.2 m) m = m ++ l := by
  induction l generalizing m with
  | nil => simp
  | cons p l ih =>
    have hp : ∀ q ∈ m, klt q.1 p.1 = true := fun q hq => (List.pairwise_append.1 h).2.2 q hq p (by simp)
    rw [List.foldl_cons, ins_last _ _ _ hp]
    have e : m ++ p :: l = (m ++ [p]) ++ l := by simp
    rw [e] at h ⊢
    exact ih _ h
theorem mapOf_id {α : Type} {l : List (ByteArray × α)} (h : Sorted l) : mapOf (l.map Prod.fst) (l.map Prod.snd) = l := by
  unfold mapOf
  have e : (l.map Prod.fst).zip (l.map Prod.snd) = l := by
    clear h
    induction l with
    | nil => rfl
    | cons p l ih => simp [ih]
  rw [e]
  exact foldl_ins_id l [] h

/-- all maps in it are in order -/
inductive T.WS : T → Prop
  | null : WS .null
  | bool (b : Bool) : WS (.bool b)
  | int (n : Int) : WS (.int n)
  | flt (f : Nat) : WS (.flt f)
  | str (s : ByteArray) : WS (.str s)
  | list {l : List T} : (∀ t ∈ l, WS t) → WS (.list l)
  | map {l : List (ByteArray × T)} : Sorted l → (∀ k t, (k, t) ∈ l → WS t) → WS (.map l)

theorem tree_ws (r : RV) : r.tree.WS := by
  induction hrk : r.rank using Nat.strongRecOn generalizing r with
  | ind m ih =>
  subst hrk
  obtain ⟨kind, n, f, s, keys, l⟩ := r
  have hl : ∀ t ∈ RV.treeL l, T.WS t := by
    intro t ht
    rw [treeL_eq] at ht
    obtain ⟨r, hr, rfl⟩ := List.mem_map.1 ht
    exact ih _ (RV.rank_lt hr) r rfl
  rw [RV.tree]
  split
  · exact .bool _
  · split
    · exact .int _
    · split
      · exact .flt _
      · split
        · exact .str _
        · split
          · exact .list hl
          · split
            · exact .map (mapOf_sorted _ _) fun k t ht => hl t (mapOf_mem _ _ _ ht)
            · exact .null

theorem toRV_tree {t : T} (h : t.WS) : t.toRV.tree = t := by
  induction h with
  | null => simp [T.toRV, RV.tree]
  | bool b => cases b <;> simp [T.toRV, RV.tree]
  | int n => simp [T.toRV, RV.tree]
  | flt f => simp [T.toRV, RV.tree]
  | str s => simp [T.toRV, RV.tree]
  | @list l h ih =>
    rw [T.toRV, RV.tree, treeL_eq, toRVL_eq, List.map_map]
    have e : l.map (RV.tree ∘ T.toRV) = l := by
      rw [List.map_congr_left (f := RV.tree ∘ T.toRV) (g := id) (fun t ht => ih t ht), List.map_id]
    rw [e]
    simp
  | @map l hs h ih =>
    rw [T.toRV, RV.tree, treeL_eq, toRVM_eq, List.map_map]
    have e : l.map (RV.tree ∘ fun p => p.2.toRV) = l.map Prod.snd := List.map_congr_left fun p hp => ih p.1 p.2 hp
    rw [e, mapOf_id hs]
    simp
theorem flds_map {l : List (ByteArray × T)} (h : (T.map l).WS) : (T.map l).toRV.flds = l := by
  have e := toRV_tree h
  rw [T.toRV, RV.tree, treeL_eq] at e
  rw [T.toRV, RV.flds]
  simpa using e


/-- a map with one field more, against the map -/
theorem cmpM_ins {l : List (ByteArray × T)} {k : ByteArray} {v : T} (hs : Sorted l) (hk : k ∉ l.map Prod.fst) (hok : ∀ j t, (j, t) ∈ l → T.Ok t) :
    T.cmpM (ins k v l) l = (if l.any (fun p => klt k p.1) then -1 else 1) ∧ T.cmpM l (ins k v l) = (if l.any (fun p => klt k p.1) then 1 else -1) := by
  induction l with
  | nil => simp [ins, T.cmpM]
  | cons p l ih =>
    obtain ⟨j, t⟩ := p
    have hne : j ≠ k := fun e => hk (by simp [e])
    have ih' := ih (List.pairwise_cons.1 hs).2 (fun h => hk (by simp only [List.map_cons, List.mem_cons]; exact .inr h)) fun j t ht => hok j t (by simp [ht])
    by_cases hlt : klt j k = true
    · rw [ins, if_pos hlt, T.cmpM, T.cmpM, cmpS_zero.2 rfl, if_pos rfl, if_pos rfl, cmp_self (hok j t (by simp)), if_pos rfl, if_pos rfl, ih'.1, ih'.2]
      have : klt k j = false := klt_asymm hlt
      rw [List.any_cons, this, Bool.false_or]
      exact ⟨rfl, rfl⟩
    · have hgt : klt k j = true := klt_of_not (by simpa using hlt) hne
      rw [ins, if_neg hlt, if_neg hne, T.cmpM, T.cmpM]
      have e1 := cmpS_eq k j
      rw [if_pos hgt] at e1
      have e2 := cmpS_eq j k
      rw [if_neg hlt, if_neg hne] at e2
      rw [e1, e2, if_neg (show ¬ (-1 : Int) = 0 by omega), if_neg (show ¬ (1 : Int) = 0 by omega), List.any_cons, hgt, Bool.true_or]
      exact ⟨rfl, rfl⟩
theorem any_last {l : List (ByteArray × T)} {k : ByteArray} (hs : Sorted l) : l.any (fun p => klt k p.1) = match l.getLast? with | some p => klt k p.1 | none => false := by
  cases hl : l.getLast? with
  | none =>
    have : l = [] := List.getLast?_eq_none_iff.1 hl
    subst this
    rfl
  | some p =>
    obtain ⟨m, rfl⟩ := List.getLast?_eq_some_iff.1 hl
    rw [List.any_append]
    simp only [List.any_cons, List.any_nil, Bool.or_false]
    cases h : klt k p.1
    · rw [Bool.or_false, Bool.eq_false_iff]
      intro h'
      obtain ⟨q, hq, hkq⟩ := List.any_eq_true.1 h'
      have := klt_trans hkq ((List.pairwise_append.1 hs).2.2 q hq p (by simp))
      rw [h] at this
      cases this
    · simp
theorem eqvM_ins {l : List (ByteArray × T)} {k : ByteArray} {v : T} (hk : k ∉ l.map Prod.fst) : T.eqvM l (ins k v l) = false := by
  rw [Bool.eq_false_iff]
  intro h
  have := eqvM_keys h
  have hm : k ∈ (ins k v l).map Prod.fst := by
    rw [ins_eq]
    simp
  rw [← this] at hm
  exact hk hm


theorem toRV_six {t : T} {kd n : Int} {f : Nat} {s : ByteArray} {keys : List ByteArray} {l : List RV} (h : t.toRV = .mk kd n f s keys l) (hk : kd = 6) : ∃ l0, t = .map l0 := by
  subst hk
  cases t with
  | map l0 => exact ⟨l0, rfl⟩
  | _ => simp [T.toRV] at h
theorem toRV_fields (l0 : List (ByteArray × T)) : (T.map l0).toRV = fieldsRV (l0.map fun p => (p.1, p.2.toRV)) := by
  rw [T.toRV, toRVM_eq, fieldsRV, List.map_map, List.map_map]
  rfl
theorem found_not {α : Type} {k : ByteArray} {m : List (ByteArray × α)} (hs : Sorted m) (h : found k m = false) : k ∉ m.map Prod.fst := by
  intro hk
  obtain ⟨i, hi⟩ := List.getElem?_of_mem hk
  rw [List.getElem?_map] at hi
  have hil : i < m.length := by
    rcases Nat.lt_or_ge i m.length with h1 | h1
    · exact h1
    · rw [List.getElem?_eq_none h1] at hi
      cases hi
  have e : (m[i]).1 = k := by
    rw [List.getElem?_eq_getElem hil] at hi
    simpa using hi
  have h1 : ¬ i < cnt k m := by
    intro h1
    have := (cnt_lt (k := k) hs i hil).2 h1
    rw [e, klt_irrefl] at this
    cases this
  have h2 : ¬ cnt k m < i := by
    intro h2
    have h3 := List.pairwise_iff_getElem.1 hs (cnt k m) i (by omega) hil h2
    rw [e] at h3
    have := (cnt_lt (k := k) hs (cnt k m) (by omega)).1 h3
    omega
  have h4 : cnt k m = i := by omega
  rw [found, h4, List.getElem?_eq_getElem hil] at h
  simp [e] at h
theorem tree_len {r : RV} {l0 : List (ByteArray × T)} {kd n : Int} {f : Nat} {s : ByteArray} {keys : List ByteArray} {l : List RV} (hr : r = .mk kd n f s keys l) (h : r.tree = .map l0) : l0.length ≤ l.length := by
  subst hr
  rw [RV.tree] at h
  have e : mapOf keys (RV.treeL l) = l0 := by
    split at h
    · cases h
    · split at h
      · cases h
      · split at h
        · cases h
        · split at h
          · cases h
          · split at h
            · cases h
            · split at h
              · injection h
              · cases h
  rw [← e, treeL_eq]
  have := foldl_ins_length (keys.zip (l.map RV.tree)) []
  unfold mapOf
  simp only [List.length_zip, List.length_map, List.length_nil] at this
  omega
theorem more_eq (k : ByteArray) (x : T) (l0 : List (ByteArray × T)) : fieldsRV (ins k x.toRV (l0.map fun p => (p.1, p.2.toRV))) = (T.map (ins k x l0)).toRV := by
  rw [toRV_fields, ins_map]
theorem more_ws {k : ByteArray} {x : T} {l0 : List (ByteArray × T)} (h : (T.map l0).WS) (hx : x.WS) : (T.map (ins k x l0)).WS := by
  cases h with
  | map hs hw =>
  refine .map (ins_sorted hs) fun j t ht => ?_
  rw [ins_eq] at ht
  rcases List.mem_append.1 ht with h1 | h1
  · exact hw j t (List.mem_of_mem_take h1)
  · rcases List.mem_cons.1 h1 with h2 | h2
    · cases h2
      exact hx
    · exact hw j t (List.mem_of_mem_drop h2)
theorem ok_fields' {l : List (ByteArray × T)} (h : (T.map l).Ok) : ∀ j t, (j, t) ∈ l → T.Ok t := by
  cases h with
  | map h => exact h
theorem any_at {l : List (ByteArray × T)} {k : ByteArray} (hs : Sorted l) (hn : 0 < l.length) : l.any (fun p => klt k p.1) = klt k (l[l.length - 1]).1 := by
  rw [any_last hs, List.getLast?_eq_getElem?, List.getElem?_eq_getElem (by omega)]

end Go.Proofs.Ytekaainjpddklaa
