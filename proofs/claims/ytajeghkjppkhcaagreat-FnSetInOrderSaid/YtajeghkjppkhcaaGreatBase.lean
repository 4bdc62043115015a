/-
  Several texts in one: Tree, Maps, Mem, Append.
-/
import Derived.WalkKit
import Derived.WideShapes
import Derived.Lib.Strings
import Derived.Maps.RangeRun
import Derived.Below
import Derived.MapKept
import Derived.WideLaws
import Derived.OwnWalk
import Derived.Laws.Entries
import Derived.Deep.AppendLies
import Derived.Maps.AppendAt
import Derived.RegionTactic
import Derived.Deep.RegionHeld3
import Derived.BigQuiet
import Derived.Deep.QuietTactic
set_option linter.unusedVariables false
set_option linter.unusedSimpArgs false
/-!
  Plain definitions and lemmas, no program in sight: trees of values, their raw form as the program's struct, keys in order, insertion of a field.
-/

namespace Go.Proofs.YtajeghkjppkhcaaGreat

theorem less_lt (x : List UInt8) : ∀ y : List UInt8, Op.bytesLess x y = decide (x < y) := by
  induction x with
  | nil => intro y; cases y <;> simp [Op.bytesLess]
  | cons a x ih =>
    intro y
    cases y with
    | nil => simp [Op.bytesLess]
    | cons b y =>
      rw [Op.bytesLess, ih y]
      simp only [List.cons_lt_cons_iff]
      by_cases h1 : a < b <;> by_cases h2 : a = b <;> by_cases h3 : x < y <;> simp [h1, h2, h3]

/-- Go's '<' on strings. -/
def klt (a b : ByteArray) : Bool := Op.bytesLess a.toList b.toList

theorem klt_iff (a b : ByteArray) : klt a b = true ↔ a.data.toList < b.data.toList := by
  unfold klt
  rw [less_lt, Lib.toList_data, Lib.toList_data, decide_eq_true_iff]
theorem bytes_ext {a b : ByteArray} (h : a.data.toList = b.data.toList) : a = b := Go.WideShapes.bytes_inj h
theorem u8lt_irrefl (a : UInt8) : ¬ a < a := by simp
theorem klt_irrefl (a : ByteArray) : klt a a = false := by
  rw [Bool.eq_false_iff]; intro h
  exact List.lt_irrefl _ ((klt_iff a a).1 h)
theorem klt_trans {a b c : ByteArray} (h : klt a b = true) (h' : klt b c = true) : klt a c = true :=
  (klt_iff a c).2 (List.lt_trans ((klt_iff a b).1 h) ((klt_iff b c).1 h'))
theorem klt_asymm {a b : ByteArray} (h : klt a b = true) : klt b a = false := by
  rw [Bool.eq_false_iff]; intro h'
  have := klt_trans h h'
  rw [klt_irrefl] at this; cases this
theorem klt_ne {a b : ByteArray} (h : klt a b = true) : a ≠ b := by
  rintro rfl; rw [klt_irrefl] at h; cases h
theorem klt_total (a b : ByteArray) : a = b ∨ klt a b = true ∨ klt b a = true := by
  by_cases h : klt a b = true
  · exact .inr (.inl h)
  · by_cases h' : klt b a = true
    · exact .inr (.inr h')
    · left
      rw [klt_iff] at h h'
      exact bytes_ext (List.le_antisymm (List.not_lt.1 h') (List.not_lt.1 h))
theorem klt_of_not {a b : ByteArray} (h : klt a b = false) (hne : a ≠ b) : klt b a = true := by
  rcases klt_total a b with h1 | h1 | h1
  · exact absurd h1 hne
  · rw [h] at h1; cases h1
  · exact h1

/-- a value, as the package sees it -/
inductive T where
  | null
  | bool (b : Bool)
  | int (n : Int)
  | flt (f : Nat)
  | str (s : ByteArray)
  | list (l : List T)
  | map (l : List (ByteArray × T))

/-- a value, as the thin package's struct holds it -/
inductive RV where
  | mk (kind n : Int) (f : Nat) (s : ByteArray) (keys : List ByteArray) (l : List RV)

/-- the entry (k, v) laid into a list of entries in order -/
def ins {α : Type} (k : ByteArray) (v : α) : List (ByteArray × α) → List (ByteArray × α)
  | [] => [(k, v)]
  | p :: r => if klt p.1 k then p :: ins k v r else if p.1 = k then (k, v) :: r else (k, v) :: p :: r

/-- how many keys stand before k -/
def cnt {α : Type} (k : ByteArray) : List (ByteArray × α) → Nat
  | [] => 0
  | p :: r => if klt p.1 k then cnt k r + 1 else 0

def Sorted {α : Type} (l : List (ByteArray × α)) : Prop := l.Pairwise fun p q => klt p.1 q.1 = true

section
variable {α β : Type}

theorem cnt_le (k : ByteArray) (l : List (ByteArray × α)) : cnt k l ≤ l.length := by
  induction l with
  | nil => simp [cnt]
  | cons p r ih => simp only [cnt, List.length_cons]; split <;> omega
theorem ins_eq (k : ByteArray) (v : α) (l : List (ByteArray × α)) :
    ins k v l = l.take (cnt k l) ++ (k, v) :: l.drop (if (l[cnt k l]?).map Prod.fst = some k then cnt k l + 1 else cnt k l) := by
  induction l with
  | nil => simp [ins, cnt]
  | cons p r ih =>
    simp only [ins, cnt]
    by_cases h : klt p.1 k = true
    · simp only [h, if_true, List.take_succ_cons, List.cons_append, List.getElem?_cons_succ]
      rw [ih]
      congr 2
      by_cases h2 : (r[cnt k r]?).map Prod.fst = some k
      · simp [h2]
      · simp [h2]
    · simp only [h, Bool.false_eq_true, if_false, List.take_zero, List.nil_append, List.getElem?_cons_zero, Option.map_some, Option.some.injEq]
      by_cases h2 : p.1 = k <;> simp [h2]
theorem mem_ins {k : ByteArray} {v : α} {l : List (ByteArray × α)} {p : ByteArray × α} (h : p ∈ ins k v l) : p = (k, v) ∨ p ∈ l := by
  induction l with
  | nil => simp [ins] at h; exact .inl h
  | cons q r ih =>
    simp only [ins] at h
    split at h
    · rcases List.mem_cons.1 h with h | h
      · exact .inr (by simp [h])
      · rcases ih h with h | h
        · exact .inl h
        · exact .inr (by simp [h])
    · split at h
      · rcases List.mem_cons.1 h with h | h
        · exact .inl h
        · exact .inr (by simp [h])
      · rcases List.mem_cons.1 h with h | h
        · exact .inl h
        · exact .inr h
theorem mem_ins_iff {k : ByteArray} {v : α} {l : List (ByteArray × α)} (hs : Sorted l) (p : ByteArray × α) : p ∈ ins k v l ↔ p = (k, v) ∨ (p ∈ l ∧ p.1 ≠ k) := by
  induction l with
  | nil => simp [ins]
  | cons q r ih =>
    obtain ⟨h1, h2⟩ := List.pairwise_cons.1 hs
    simp only [ins]
    by_cases h : klt q.1 k = true
    · simp only [h, if_true, List.mem_cons, ih h2]
      constructor
      · rintro (rfl | h3 | ⟨h3, h4⟩)
        · exact .inr ⟨.inl rfl, klt_ne h⟩
        · exact .inl h3
        · exact .inr ⟨.inr h3, h4⟩
      · rintro (h3 | ⟨h3 | h3, h4⟩)
        · exact .inr (.inl h3)
        · exact .inl h3
        · exact .inr (.inr ⟨h3, h4⟩)
    · by_cases h3 : q.1 = k
      · rw [if_neg h, if_pos h3]
        simp only [List.mem_cons]
        constructor
        · rintro (h4 | h4)
          · exact .inl h4
          · exact .inr ⟨.inr h4, fun e => klt_ne (h1 p h4) (h3.trans e.symm)⟩
        · rintro (h4 | ⟨rfl | h4, h5⟩)
          · exact .inl h4
          · exact absurd h3 h5
          · exact .inr h4
      · simp only [h, h3, Bool.false_eq_true, if_false, List.mem_cons]
        have hk : klt k q.1 = true := klt_of_not (by simpa using h) h3
        constructor
        · rintro (h4 | rfl | h4)
          · exact .inl h4
          · exact .inr ⟨.inl rfl, h3⟩
          · exact .inr ⟨.inr h4, fun e => by have := klt_trans hk (h1 p h4); rw [e, klt_irrefl] at this; cases this⟩
        · rintro (h4 | ⟨h4, _⟩)
          · exact .inl h4
          · exact .inr h4
theorem ins_sorted {k : ByteArray} {v : α} {l : List (ByteArray × α)} (hs : Sorted l) : Sorted (ins k v l) := by
  induction l with
  | nil => simp [ins, Sorted]
  | cons q r ih =>
    obtain ⟨h1, h2⟩ := List.pairwise_cons.1 hs
    simp only [ins]
    by_cases h : klt q.1 k = true
    · simp only [h, if_true]
      refine List.pairwise_cons.2 ⟨fun p hp => ?_, ih h2⟩
      rcases mem_ins hp with rfl | hp
      · exact h
      · exact h1 p hp
    · by_cases h3 : q.1 = k
      · rw [if_neg h, if_pos h3]
        exact List.pairwise_cons.2 ⟨fun p hp => by have := h1 p hp; rwa [h3] at this, h2⟩
      · simp only [h, h3, Bool.false_eq_true, if_false]
        have hk : klt k q.1 = true := klt_of_not (by simpa using h) h3
        refine List.pairwise_cons.2 ⟨fun p hp => ?_, hs⟩
        rcases List.mem_cons.1 hp with rfl | hp
        · exact hk
        · exact klt_trans hk (h1 p hp)
theorem ins_length (k : ByteArray) (v : α) (l : List (ByteArray × α)) : (ins k v l).length ≤ l.length + 1 := by
  induction l with
  | nil => simp [ins]
  | cons q r ih => simp only [ins]; split <;> (try split) <;> simp_all
theorem ins_map (f : α → β) (k : ByteArray) (v : α) (l : List (ByteArray × α)) : (ins k v l).map (fun p => (p.1, f p.2)) = ins k (f v) (l.map fun p => (p.1, f p.2)) := by
  induction l with
  | nil => simp [ins]
  | cons q r ih => simp only [ins, List.map_cons]; split <;> (try split) <;> simp_all
theorem sorted_nodup {l : List (ByteArray × α)} (h : Sorted l) : (l.map Prod.fst).Nodup := by
  unfold List.Nodup
  rw [List.pairwise_map]
  exact h.imp fun h => klt_ne h
theorem keys_ins {k : ByteArray} {v : α} {l : List (ByteArray × α)} (hs : Sorted l) (x : ByteArray) : x ∈ (ins k v l).map Prod.fst ↔ x = k ∨ x ∈ l.map Prod.fst := by
  simp only [List.mem_map]
  constructor
  · rintro ⟨p, hp, rfl⟩
    rcases (mem_ins_iff hs p).1 hp with rfl | ⟨hp, _⟩
    · exact .inl rfl
    · exact .inr ⟨p, hp, rfl⟩
  · rintro (rfl | ⟨p, hp, rfl⟩)
    · exact ⟨(x, v), (mem_ins_iff hs _).2 (.inl rfl), rfl⟩
    · by_cases e : p.1 = k
      · exact ⟨(k, v), (mem_ins_iff hs _).2 (.inl rfl), e.symm⟩
      · exact ⟨p, (mem_ins_iff hs _).2 (.inr ⟨hp, e⟩), rfl⟩
theorem cnt_lt {k : ByteArray} {l : List (ByteArray × α)} (hs : Sorted l) : ∀ (i : Nat) (h : i < l.length), klt (l[i]).1 k = true ↔ i < cnt k l := by
  induction l with
  | nil => intro i h; simp at h
  | cons p r ih =>
    obtain ⟨h1, h2⟩ := List.pairwise_cons.1 hs
    intro i h
    simp only [cnt]
    cases i with
    | zero => simp only [List.getElem_cons_zero]; split <;> rename_i hp <;> simp [hp]
    | succ i =>
      simp only [List.getElem_cons_succ]
      have hi : i < r.length := by simpa using h
      split
      · rename_i hp
        rw [ih h2 i hi]; omega
      · rename_i hp
        constructor
        · intro hk
          exact absurd (klt_trans (h1 _ (List.getElem_mem hi)) hk) hp
        · intro h; omega
/-- the map that a list of keys with a list of values makes: of equal keys the last one counts -/
def mapOf (keys : List ByteArray) (l : List α) : List (ByteArray × α) := (keys.zip l).foldl (fun m p => ins p.1 p.2 m) []
theorem foldl_ins_sorted (l : List (ByteArray × α)) : ∀ m, Sorted m → Sorted (l.foldl (fun m p => ins p.1 p.2 m) m) := by
  induction l with
  | nil => intro m h; exact h
  | cons p r ih => intro m h; exact ih _ (ins_sorted h)
theorem foldl_ins_keys (l : List (ByteArray × α)) : ∀ m p, p ∈ l.foldl (fun m p => ins p.1 p.2 m) m → p ∈ m ∨ p ∈ l := by
  induction l with
  | nil => intro m p h; exact .inl h
  | cons q r ih =>
    intro m p h
    rcases ih _ _ h with h | h
    · rcases mem_ins h with h | h
      · exact .inr (by rw [h]; simp)
      · exact .inl h
    · exact .inr (by simp [h])
theorem mapOf_keys (keys : List ByteArray) (l : List α) (p : ByteArray × α) (h : p ∈ mapOf keys l) : p.1 ∈ keys := by
  rcases foldl_ins_keys _ _ _ h with h | h
  · cases h
  · exact (List.of_mem_zip h).1
theorem mapOf_sorted (keys : List ByteArray) (l : List α) : Sorted (mapOf keys l) := foldl_ins_sorted _ _ List.Pairwise.nil
theorem foldl_ins_length (l : List (ByteArray × α)) : ∀ m, (l.foldl (fun m p => ins p.1 p.2 m) m).length ≤ m.length + l.length := by
  induction l with
  | nil => intro m; simp
  | cons p r ih => intro m; have h1 := ih (ins p.1 p.2 m); have h2 := ins_length p.1 p.2 m; simp only [List.foldl_cons, List.length_cons]; omega
theorem mapOf_take_length (keys : List ByteArray) (l : List α) (k : Nat) : (mapOf (keys.take k) (l.take k)).length ≤ k := by
  have := foldl_ins_length ((keys.take k).zip (l.take k)) []
  simp only [List.length_nil, List.length_zip, List.length_take] at this
  unfold mapOf
  omega
theorem zip_take (k : Nat) : ∀ (a : List α) (b : List β), (a.take k).zip (b.take k) = (a.zip b).take k := by
  induction k with
  | zero => intro a b; simp
  | succ k ih => intro a b; cases a <;> cases b <;> simp [ih]
theorem mapOf_take_succ (keys : List ByteArray) (l : List α) (k : Nat) (hk : k < keys.length) (hl : k < l.length) :
    mapOf (keys.take (k + 1)) (l.take (k + 1)) = ins keys[k] l[k] (mapOf (keys.take k) (l.take k)) := by
  unfold mapOf
  rw [zip_take, zip_take, List.take_succ_eq_append_getElem (by simp; omega), List.foldl_append]
  simp
theorem mapOf_take_all (keys : List ByteArray) (l : List α) (k : Nat) (h : keys.length ≤ k ∨ l.length ≤ k) : mapOf (keys.take k) (l.take k) = mapOf keys l := by
  unfold mapOf
  rw [zip_take, List.take_of_length_le (by simp; omega)]
end

noncomputable def RV.rank (r : RV) : Nat := SizeOf.sizeOf r
theorem RV.rank_lt {kind n : Int} {f : Nat} {s : ByteArray} {keys : List ByteArray} {l : List RV} {r : RV} (h : r ∈ l) : r.rank < (RV.mk kind n f s keys l).rank := by
  have h1 := List.sizeOf_lt_of_mem h
  unfold RV.rank
  simp only [RV.mk.sizeOf_spec]
  omega
noncomputable def T.rank (t : T) : Nat := SizeOf.sizeOf t
theorem T.rank_list {l : List T} {t : T} (h : t ∈ l) : t.rank < (T.list l).rank := by
  have h1 := List.sizeOf_lt_of_mem h
  unfold T.rank
  simp only [T.list.sizeOf_spec]
  omega
theorem T.rank_map {l : List (ByteArray × T)} {k : ByteArray} {t : T} (h : (k, t) ∈ l) : t.rank < (T.map l).rank := by
  have h1 := List.sizeOf_lt_of_mem h
  unfold T.rank
  simp only [T.map.sizeOf_spec, Prod.mk.sizeOf_spec] at *
  omega

mutual
def RV.tree : RV → T
  | .mk kind n f s keys l =>
    if kind = 1 then .bool (n != 0)
    else if kind = 2 then .int n
    else if kind = 3 then .flt f
    else if kind = 4 then .str s
    else if kind = 5 then .list (RV.treeL l)
    else if kind = 6 then .map (mapOf keys (RV.treeL l))
    else .null
def RV.treeL : List RV → List T
  | [] => []
  | r :: rs => r.tree :: RV.treeL rs
end
theorem treeL_eq (l : List RV) : RV.treeL l = l.map RV.tree := by
  induction l with
  | nil => simp [RV.treeL]
  | cons r rs ih => simp [RV.treeL, ih]

/-- the fields of a value, whatever its kind says -/
def RV.fieldsOf : RV → T
  | .mk _ _ _ _ keys l => .map (mapOf keys (l.map RV.tree))

mutual
/-- the plain form of a tree -/
def T.toRV : T → RV
  | .null => .mk 0 0 0 ByteArray.empty [] []
  | .bool b => .mk 1 (if b then 1 else 0) 0 ByteArray.empty [] []
  | .int n => .mk 2 n 0 ByteArray.empty [] []
  | .flt f => .mk 3 0 f ByteArray.empty [] []
  | .str s => .mk 4 0 0 s [] []
  | .list l => .mk 5 0 0 ByteArray.empty [] (T.toRVL l)
  | .map l => .mk 6 0 0 ByteArray.empty (l.map Prod.fst) (T.toRVM l)
def T.toRVL : List T → List RV
  | [] => []
  | t :: r => t.toRV :: T.toRVL r
def T.toRVM : List (ByteArray × T) → List RV
  | [] => []
  | (_, t) :: r => t.toRV :: T.toRVM r
end
theorem toRVL_eq (l : List T) : T.toRVL l = l.map T.toRV := by
  induction l with
  | nil => simp [T.toRVL]
  | cons r rs ih => simp [T.toRVL, ih]
theorem toRVM_eq (l : List (ByteArray × T)) : T.toRVM l = l.map fun p => p.2.toRV := by
  induction l with
  | nil => simp [T.toRVM]
  | cons r rs ih => obtain ⟨k, t⟩ := r; simp [T.toRVM, ih]

end Go.Proofs.YtajeghkjppkhcaaGreat

/-!
  A map keyed by strings, as one block of memory: made, written, looked up, counted, deleted from, ranged over. No program in sight.
-/

namespace Go.Proofs.YtajeghkjppkhcaaGreat
open Go.RowKit Go.MapKept Go.ChangeMaps

/-- block r is a map whose keys are ks, each once; under k lies 'val k' -/
structure MapIs (w : World) (r : Nat) (ks : List ByteArray) (val : ByteArray → Value) : Prop where
  ex : ∃ es clock, w.heap[r]? = some (.map es clock) ∧ Stamped es clock ∧ ks.Nodup ∧
    (∀ e ∈ es.toList, ∃ k, e.key = .string k ∧ k ∈ ks ∧ e.val = val k) ∧ (∀ k ∈ ks, ∃ e ∈ es.toList, e.key = .string k)

section
variable {P : Program} {w w' : World} {r : Nat} {ks : List ByteArray} {val : ByteArray → Value} {t kt et : TypeId}

theorem MapIs.keep (h : MapIs w r ks val) (k : w'.heap[r]? = w.heap[r]?) : MapIs w' r ks val := by
  obtain ⟨es, clock, hb, rest⟩ := h.ex
  exact ⟨es, clock, k.trans hb, rest⟩
theorem MapIs.lt (h : MapIs w r ks val) : r < w.heap.size := by
  obtain ⟨es, clock, hb, _⟩ := h.ex
  exact (Array.getElem?_eq_some_iff.1 hb).1
theorem MapIs.nodup (h : MapIs w r ks val) : ks.Nodup := by
  obtain ⟨es, clock, _, _, h, _⟩ := h.ex
  exact h
theorem MapIs.made (w : World) (val : ByteArray → Value) : MapIs (w.alloc (.map #[] 0)) w.heap.size [] val :=
  ⟨#[], 0, (MapKept.heap_alloc w _).1, stamped_empty 0, by simp, by simp, by simp⟩

theorem isKey_str {es : Array MapEntry} (h : ∀ e ∈ es.toList, ∃ k, e.key = .string k ∧ k ∈ ks ∧ e.val = val k) : ∀ x ∈ es.toList, IsKey .string x.key := by
  intro x hx
  obtain ⟨k, hk, _⟩ := h x hx
  rw [hk]
  trivial
theorem entry_eq_of_keys {es : Array MapEntry} {clock : Nat} (hs : Stamped es clock) {x y : MapEntry} (hx : x ∈ es.toList) (hy : y ∈ es.toList) (h : x.key = y.key) : x = y := by
  have hp := ((stamped_iff es clock).1 hs).2.2
  clear hs
  generalize es.toList = l at hp hx hy
  induction hp with
  | nil => simp at hx
  | cons h1 _ ih =>
    rcases List.mem_cons.1 hx with ex | hx'
    · rcases List.mem_cons.1 hy with ey | hy'
      · rw [ex, ey]
      · subst ex; exact absurd h (h1 y hy')
    · rcases List.mem_cons.1 hy with ey | hy'
      · subst ey; exact absurd h.symm (h1 x hx')
      · exact ih hx' hy'

/-- what a look-up finds -/
theorem find_str {es : Array MapEntry} {clock : Nat} (_hs : Stamped es clock) (h1 : ∀ e ∈ es.toList, ∃ k, e.key = .string k ∧ k ∈ ks ∧ e.val = val k) (h2 : ∀ k ∈ ks, ∃ e ∈ es.toList, e.key = .string k) (k : ByteArray) :
    (k ∈ ks ∧ ∃ j e, Instr.findNow .string (.string k) es.toList 0 = some (some (j, val k)) ∧ es.toList[j]? = some e ∧ e.key = .string k) ∨
    (k ∉ ks ∧ Instr.findNow .string (.string k) es.toList 0 = some none ∧ ∀ x ∈ es.toList, x.key ≠ .string k) := by
  rcases findNow_spec (d := .string) (k := .string k) trivial es.toList 0 (isKey_str h1) with ⟨q1, q2⟩ | ⟨j, e, q1, q2, q3⟩
  · right
    refine ⟨fun hk => ?_, q1, q2⟩
    obtain ⟨e, he, hek⟩ := h2 k hk
    exact q2 e he hek
  · left
    have hem := List.mem_of_getElem? q2
    obtain ⟨k', hk', hm, hv⟩ := h1 e hem
    rw [q3] at hk'
    injection hk' with hk'
    subst hk'
    exact ⟨hm, j, e, by rw [q1, hv]; simp, q2, q3⟩

theorem MapIs.lookup_ok (h : MapIs w r ks val) (ht : P.underlying t = some (.map kt et)) (hk : P.underlying kt = some .string) (k : ByteArray) (hm : k ∈ ks) :
    (Instr.lookup t (.map (some r)) (.string k) true).run P w = .ok (.tuple #[val k, .bool true]) w ∧ (Instr.lookup t (.map (some r)) (.string k) false).run P w = .ok (val k) w := by
  obtain ⟨es, clock, hb, hs, _, h1, h2⟩ := h.ex
  rcases find_str hs h1 h2 k with ⟨_, j, e, q1, _⟩ | ⟨q, _⟩
  · constructor <;> simp [Instr.lookup, run_underlying ht, MapKept.run_getObj_map hb, run_checkKey (d := .string) (k := .string k) hk trivial, run_findKey hk q1, Result.andThen]
  · exact absurd hm q
theorem MapIs.lookup_no (h : MapIs w r ks val) (ht : P.underlying t = some (.map kt et)) (hk : P.underlying kt = some .string) {z : Value} (hz : (zeroValue et).run P w = .ok z w) (k : ByteArray) (hm : k ∉ ks) :
    (Instr.lookup t (.map (some r)) (.string k) true).run P w = .ok (.tuple #[z, .bool false]) w ∧ (Instr.lookup t (.map (some r)) (.string k) false).run P w = .ok z w := by
  obtain ⟨es, clock, hb, hs, _, h1, h2⟩ := h.ex
  rcases find_str hs h1 h2 k with ⟨q, _⟩ | ⟨_, q1, _⟩
  · exact absurd q hm
  · constructor <;> simp [Instr.lookup, run_underlying ht, MapKept.run_getObj_map hb, run_checkKey (d := .string) (k := .string k) hk trivial, run_findKey hk q1, hz, Result.andThen]

theorem setBlock_grown {o : Obj} {es : Array MapEntry} {clock : Nat} (hb : w.heap[r]? = some (.map es clock)) : w.grownBy (setBlock w r o) (some r) :=
  ⟨rfl, rfl, rfl, by simp [setBlock], fun i _ hi => heap_setBlock_other hb _ (fun e => hi (by rw [e]))⟩

theorem MapIs.update (h : MapIs w r ks val) (ht : P.underlying t = some (.map kt et)) (hk : P.underlying kt = some .string) (k : ByteArray) (u : Value) (ks' : List ByteArray) (hn : ks'.Nodup) (hm : ∀ x, x ∈ ks' ↔ x = k ∨ x ∈ ks) :
    ∃ w', (Instr.mapUpdate t (.map (some r)) (.string k) u).run P w = .ok () w' ∧ MapIs w' r ks' (fun x => if x = k then u else val x) ∧ w.grownBy w' (some r) ∧ w'.heap.size = w.heap.size := by
  obtain ⟨es, clock, hb, hs, _, h1, h2⟩ := h.ex
  have hkk : IsKey .string (.string k) := trivial
  rcases find_str hs h1 h2 k with ⟨hin, j, e, q1, q2, q3⟩ | ⟨hout, q1, q2⟩
  · have hj : es[j]? = some e := by simpa using q2
    refine ⟨setBlock w r (.map (es.modify j fun e => { e with key := .string k, val := u }) clock), ?_, ⟨_, _, heap_setBlock_same hb _, ?_, hn, ?_, ?_⟩, setBlock_grown hb, by simp [setBlock]⟩
    · simp [Instr.mapUpdate, run_underlying ht, MapKept.run_getObj_map hb, run_checkKey hk hkk, run_findKey hk q1, hj, q3, run_keyThatStays hkk, MapKept.run_setObj_map _ hb, Result.andThen, setBlock]
    · exact stamped_modify hs _ _ (fun _ _ => rfl) (fun e' _ he' => by rw [hj] at he'; cases he'; exact q3.symm)
    · intro x hx
      obtain ⟨i, hi⟩ := List.getElem?_of_mem hx
      rw [Array.getElem?_toList, Array.getElem?_modify] at hi
      by_cases hij : j = i
      · subst hij
        rw [if_pos rfl, hj] at hi
        simp only [Option.map_some, Option.some.injEq] at hi
        subst hi
        exact ⟨k, rfl, (hm k).2 (.inl rfl), by simp⟩
      · rw [if_neg hij] at hi
        have hxm : x ∈ es.toList := List.mem_of_getElem? (by simpa using hi)
        obtain ⟨k', hk', hin', hv⟩ := h1 x hxm
        have hne : k' ≠ k := by
          rintro rfl
          have hbx := entry_eq_of_keys hs hxm (List.mem_of_getElem? q2) (hk'.trans q3.symm)
          have hst := ((stamped_iff es clock).1 hs).2.1
          subst hbx
          have h3 : (es.toList.map (·.born))[i]? = (es.toList.map (·.born))[j]? := by
            rw [List.getElem?_map, List.getElem?_map, q2]
            have : es.toList[i]? = some x := by simpa using hi
            rw [this]
          have hil : i < (es.toList.map (·.born)).length := by
            have := (Array.getElem?_eq_some_iff.1 hi).1
            simpa using this
          exact hij ((List.getElem?_inj hil hst).1 h3).symm
        exact ⟨k', hk', (hm k').2 (.inr hin'), by rw [hv, if_neg hne]⟩
    · intro x hx
      rcases (hm x).1 hx with rfl | hx
      · refine ⟨{ e with key := .string x, val := u }, ?_, rfl⟩
        refine List.mem_of_getElem? (i := j) ?_
        rw [Array.getElem?_toList, Array.getElem?_modify, if_pos rfl, hj]
        rfl
      · obtain ⟨e', he', hk'⟩ := h2 x hx
        obtain ⟨i, hi⟩ := List.getElem?_of_mem he'
        by_cases hij : j = i
        · subst hij
          rw [q2] at hi
          cases hi
          refine ⟨{ e with key := .string k, val := u }, ?_, by rw [← hk', q3]⟩
          refine List.mem_of_getElem? (i := j) ?_
          rw [Array.getElem?_toList, Array.getElem?_modify, if_pos rfl, hj]
          rfl
        · refine ⟨e', ?_, hk'⟩
          refine List.mem_of_getElem? (i := i) ?_
          rw [Array.getElem?_toList, Array.getElem?_modify, if_neg hij]
          simpa using hi
  · refine ⟨setBlock w r (.map (es.push { key := .string k, val := u, born := clock }) (clock + 1)), ?_, ⟨_, _, heap_setBlock_same hb _, stamped_push hs q2, hn, ?_, ?_⟩, setBlock_grown hb, by simp [setBlock]⟩
    · simp [Instr.mapUpdate, run_underlying ht, MapKept.run_getObj_map hb, run_checkKey hk hkk, run_findKey hk q1, MapKept.run_setObj_map _ hb, Result.andThen, setBlock]
    · intro x hx
      simp only [Array.toList_push, List.mem_append, List.mem_singleton] at hx
      rcases hx with hx | rfl
      · obtain ⟨k', hk', hin', hv⟩ := h1 x hx
        have hne : k' ≠ k := fun e => hout (e ▸ hin')
        exact ⟨k', hk', (hm k').2 (.inr hin'), by rw [hv, if_neg hne]⟩
      · exact ⟨k, rfl, (hm k).2 (.inl rfl), by simp⟩
    · intro x hx
      rcases (hm x).1 hx with rfl | hx
      · exact ⟨_, by simp only [Array.toList_push, List.mem_append, List.mem_singleton]; exact .inr rfl, rfl⟩
      · obtain ⟨e', he', hk'⟩ := h2 x hx
        exact ⟨e', by simp only [Array.toList_push, List.mem_append]; exact .inl he', hk'⟩

/-- how many entries there are -/
theorem MapIs.size (h : MapIs w r ks val) {es : Array MapEntry} {clock : Nat} (hb : w.heap[r]? = some (.map es clock)) : es.size = ks.length := by
  obtain ⟨es', clock', hb', hs, hn, h1, h2⟩ := h.ex
  rw [hb] at hb'
  cases hb'
  have hp : (es.toList.map (·.key)).Perm (ks.map Value.string) := by
    refine (List.perm_ext_iff_of_nodup hs.2.2 ?_).2 fun v => ?_
    · exact List.Pairwise.map _ (fun a b (hab : a ≠ b) e => hab (by injection e)) hn
    · constructor
      · intro hv
        obtain ⟨e, he, rfl⟩ := List.mem_map.1 hv
        obtain ⟨k, hk, hin, _⟩ := h1 e he
        exact List.mem_map.2 ⟨k, hin, hk.symm⟩
      · intro hv
        obtain ⟨k, hk, rfl⟩ := List.mem_map.1 hv
        obtain ⟨e, he, hek⟩ := h2 k hk
        exact List.mem_map.2 ⟨e, he, hek⟩
  have := hp.length_eq
  simpa using this
theorem MapIs.run_len (h : MapIs w r ks val) (ht : P.underlying t = some (.map kt et)) (ty : TypeId) : (Builtin.len_ #[t] ty #[.map (some r)]).run P w = .ok (.int .i64 (ks.length : Int)) w := by
  obtain ⟨es, clock, hb, _⟩ := h.ex
  have := h.size hb
  simp [Builtin.len_, run_underlying ht, MapKept.run_getObj_map hb, this, goInt, Result.andThen]

/-- a range over the map of block r is under way, its iterator in block it; the keys of 'left' are still to come; nothing is laid into the map meanwhile -/
structure MapRange (w : World) (it r : Nat) (ks : List ByteArray) (val : ByteArray → Value) (left : List ByteArray) : Prop where
  ex : ∃ es clock seen c0, w.heap[r]? = some (.map es clock) ∧ Stamped es clock ∧ ks.Nodup ∧
    (∀ e ∈ es.toList, ∃ k, e.key = .string k ∧ k ∈ ks ∧ e.val = val k) ∧ (∀ k ∈ ks, ∃ e ∈ es.toList, e.key = .string k) ∧
    w.heap[it]? = some (.mapIter (some r) clock seen c0) ∧ clock ≤ c0 ∧ left.Nodup ∧ (∀ k ∈ left, k ∈ ks) ∧ (∀ e ∈ es.toList, ∀ k, e.key = .string k → (k ∈ left ↔ seen.contains e.born = false))

theorem MapRange.is_ {it : Nat} {left : List ByteArray} (h : MapRange w it r ks val left) : MapIs w r ks val := by
  obtain ⟨es, clock, seen, c0, hb, hs, hn, h1, h2, _⟩ := h.ex
  exact ⟨es, clock, hb, hs, hn, h1, h2⟩
theorem MapRange.lt {it : Nat} {left : List ByteArray} (h : MapRange w it r ks val left) : it < w.heap.size := by
  obtain ⟨es, clock, seen, c0, _, _, _, _, _, hi, _⟩ := h.ex
  exact (Array.getElem?_eq_some_iff.1 hi).1
theorem MapRange.keep {it : Nat} {left : List ByteArray} (h : MapRange w it r ks val left) (k1 : w'.heap[r]? = w.heap[r]?) (k2 : w'.heap[it]? = w.heap[it]?) : MapRange w' it r ks val left := by
  obtain ⟨es, clock, seen, c0, hb, hs, hn, h1, h2, hi, rest⟩ := h.ex
  exact ⟨es, clock, seen, c0, k1.trans hb, hs, hn, h1, h2, k2.trans hi, rest⟩
theorem MapIs.range (h : MapIs w r ks val) (ht : P.underlying t = some (.map kt et)) :
    (Instr.range t (.map (some r))).run P w = .ok (.pointer (some ⟨w.heap.size, 0, none⟩)) (w.alloc (.mapIter (some r) ((w.heap[r]?).elim 0 fun | .map _ c => c | _ => 0) #[] ((w.heap[r]?).elim 0 fun | .map _ c => c | _ => 0))) ∧
    MapRange (w.alloc (.mapIter (some r) ((w.heap[r]?).elim 0 fun | .map _ c => c | _ => 0) #[] ((w.heap[r]?).elim 0 fun | .map _ c => c | _ => 0))) w.heap.size r ks val ks := by
  obtain ⟨es, clock, hb, hs, hn, h1, h2⟩ := h.ex
  have hlt := h.lt
  simp only [hb, Option.elim_some]
  refine ⟨run_range_map w t kt et r es clock ht hb, ⟨es, clock, #[], clock, ((MapKept.heap_alloc w _).2 r hlt).trans hb, hs, hn, h1, h2, (MapKept.heap_alloc w _).1, Nat.le_refl _, hn, fun k hk => hk, fun e he k hk => ?_⟩⟩
  obtain ⟨k', hk', hin, _⟩ := h1 e he
  rw [hk] at hk'
  injection hk' with hk'
  subst hk'
  simp [hin]
theorem MapRange.next {it : Nat} {left : List ByteArray} (h : MapRange w it r ks val left) (ty : TypeId) :
    (left = [] ∧ (Instr.next (.pointer (some ⟨it, 0, none⟩)) false ty).run P w = .ok (.tuple #[.bool false]) w) ∨
    ∃ k w', k ∈ left ∧ (Instr.next (.pointer (some ⟨it, 0, none⟩)) false ty).run P w = .ok (.tuple #[.bool true, .string k, val k]) w' ∧ MapRange w' it r ks val (left.filter fun x => decide (x ≠ k)) ∧ w.grownBy w' (some it) ∧ w'.heap.size = w.heap.size ∧
      (Instr.entry (.pointer (some ⟨it, 0, none⟩))).run P w' = .ok (.tuple #[.string k, val k]) w' := by
  obtain ⟨es, clock, seen, c0, hb, hs, hn, h1, h2, hi, hc, hln, hls, hl⟩ := h.ex
  have hne : it ≠ r := by rintro rfl; rw [hb] at hi; cases hi
  have hst := (stamped_iff es clock).1 hs
  rcases run_next_at (P := P) w ty it r clock c0 seen es clock hi hb hst.1 hc with ⟨h0, hrun⟩ | ⟨e, he, w1, hal, hrun⟩
  · refine .inl ⟨?_, hrun⟩
    cases left with
    | nil => rfl
    | cons k rest =>
      exfalso
      obtain ⟨e, he, hek⟩ := h2 k (hls k (by simp))
      have hs' := (hl e he k hek).1 (by simp)
      have hmem : e ∈ (leftOf es seen).toList := by
        simp only [leftOf, Array.toList_filter, List.mem_filter]
        exact ⟨he, by rw [hs']; rfl⟩
      have : (leftOf es seen).toList.length = 0 := by simpa using h0
      rw [List.length_eq_zero_iff] at this
      rw [this] at hmem
      cases hmem
  · have hem : e ∈ es.toList ∧ seen.contains e.born = false := by
      simp only [leftOf, Array.toList_filter, List.mem_filter, Bool.not_eq_true'] at he
      exact he
    obtain ⟨k, hk, hin, hv⟩ := h1 e hem.1
    have hleft : k ∈ left := (hl e hem.1 k hk).2 hem.2
    have hr1 : w1.heap[it]? = some (.mapIter (some r) clock seen c0) := by rcases hal with rfl | rfl <;> exact hi
    have hb1 : w1.heap[r]? = some (.map es clock) := by rcases hal with rfl | rfl <;> exact hb
    have hset := heap_set (o' := .mapIter (some r) clock (seen.push e.born) clock) hr1
    have hb' : (setBlock w1 it (.mapIter (some r) clock (seen.push e.born) clock)).heap[r]? = some (.map es clock) := (hset.2 r (fun e1 => hne e1.symm)).trans hb1
    rw [hk, hv] at hrun
    refine .inr ⟨k, _, hleft, hrun, ⟨es, clock, seen.push e.born, clock, hb', hs, hn, h1, h2, hset.1, Nat.le_refl _, hln.filter _, fun x hx => hls x (List.mem_filter.1 hx).1, fun e' he' k' hk' => ?_⟩, ?_, ?_, ?_⟩
    · rw [List.mem_filter, hl e' he' k' hk']
      simp only [Array.contains_push, Bool.or_eq_false_iff, beq_eq_false_iff_ne, ne_eq, decide_eq_true_eq]
      constructor
      · rintro ⟨q2, q1⟩
        refine ⟨q2, fun e1 => q1 ?_⟩
        have hst2 := hst.2.1
        have : e' = e := by
          obtain ⟨i, hi'⟩ := List.getElem?_of_mem he'
          obtain ⟨j, hj'⟩ := List.getElem?_of_mem hem.1
          have h3 : (es.toList.map (·.born))[i]? = (es.toList.map (·.born))[j]? := by rw [List.getElem?_map, List.getElem?_map, hi', hj']; simp [e1]
          have := (List.getElem?_inj (by have := (List.getElem?_eq_some_iff.1 hi').1; simpa using this) hst2).1 h3
          subst this
          rw [hi'] at hj'
          exact Option.some.inj hj'
        subst this
        rw [hk] at hk'
        injection hk' with hk'
        exact hk'.symm
      · rintro ⟨q1, q2⟩
        refine ⟨q1, fun e1 => q2 ?_⟩
        subst e1
        rw [entry_eq_of_keys hs he' hem.1 (hk'.trans hk.symm)]
    · rcases hal with rfl | rfl <;> exact ⟨rfl, rfl, rfl, by simp [setBlock], fun i _ hi => hset.2 i (fun e1 => hi (by rw [e1]))⟩
    · rcases hal with rfl | rfl <;> simp [setBlock]
    · have := run_entry_at (P := P) (setBlock w1 it (.mapIter (some r) clock (seen.push e.born) clock)) it r clock seen es clock e hset.1 hb' hem.1 hst.2.1
      rw [hk, hv] at this
      exact this
end

/-! at an operation of the walk -/
section
variable {P : Program} (w : World) {ops : Array Oper} {rest : List Oper} {o : Oper} {a : Act} {Q : Exit → Act → World → Prop}

theorem wpList_update_is (hg : o.guard = none) (m x v : Operand) (t : TypeId) (hop : o.op = Op.mapUpdate t m x v) (kt et : TypeId) (ht : P.underlying t = some (.map kt et)) (hk : P.underlying kt = some .string)
    (r : Nat) (ks : List ByteArray) (val : ByteArray → Value) (hm : a.eval m = .map (some r)) (h : MapIs w r ks val) (k : ByteArray) (u : Value) (hx : a.eval x = .string k) (hv : a.eval v = u) (ks' : List ByteArray) (hn : ks'.Nodup) (hmem : ∀ x, x ∈ ks' ↔ x = k ∨ x ∈ ks)
    (hK : ∀ w', MapIs w' r ks' (fun x => if x = k then u else val x) → w.grownBy w' (some r) → w'.heap.size = w.heap.size → wpList P ops Q rest (a.put o.dst undef) w') :
    wpList P ops Q (o :: rest) a w := by
  refine wpList_plain hg fun K' hK' => ?_
  obtain ⟨w', hrun, r1, r2, r3⟩ := h.update (P := P) ht hk k u ks' hn hmem
  unfold Oper.wp
  simp [execOp, hop, hm, hx, hv, hrun, Result.andThen]
  exact hK' _ _ (hK w' r1 r2 r3)
end

end Go.Proofs.YtajeghkjppkhcaaGreat

/-!
  What lies in memory: rows of cells, the thin package's values, the package's own trees; that each is kept where the blocks that it lies in are kept.
-/

namespace Go.Proofs.YtajeghkjppkhcaaGreat
open Go.RowKit

theorem hide {p : Prop} (h : p) : Hid p := h

/-- a float stored into a cell: as every value of one cell -/
theorem run_store_float (P : Program) (w : World) (a : Addr) (m : Mode) (k : FloatKind) (b : Nat) : (store a (.float k b) m).run P w = stored P w a (.float k b) m := run_store P w a _ m rfl

def R47 : Nat := 140737488351232
def B64 : Nat := 18446744073709551616
def okInt (n : Int) : Prop := -9223372036854775808 ≤ n ∧ n ≤ 9223372036854775807

/-- the blocks of F are in w' as in w -/
def Keeps (F : Nat → Prop) (w w' : World) : Prop := ∀ b, F b → w'.heap[b]? = w.heap[b]?

theorem Keeps.refl (F : Nat → Prop) (w : World) : Keeps F w w := fun _ _ => rfl
theorem Keeps.trans {F : Nat → Prop} {a b c : World} (h : Keeps F a b) (k : Keeps F b c) : Keeps F a c := fun x hx => (k x hx).trans (h x hx)
theorem Keeps.mono {F G : Nat → Prop} {a b : World} (h : Keeps G a b) (hg : ∀ x, F x → G x) : Keeps F a b := fun x hx => h x (hg x hx)
theorem Keeps.below {F : Nat → Prop} {B : Nat} {a b : World} (h : Below B a b) (hF : ∀ x, F x → x < B) : Keeps F a b := fun x hx => h.block x (hF x hx)
theorem Keeps.grown {F : Nat → Prop} {row : Option Nat} {a b : World} (h : a.grownBy b row) (hF : ∀ x, F x → x < a.heap.size ∧ some x ≠ row) : Keeps F a b :=
  fun x hx => h.block x (hF x hx).1 (hF x hx).2
theorem Keeps.alloc {F : Nat → Prop} (w : World) (o : Obj) (hF : ∀ x, F x → x < w.heap.size) : Keeps F w (w.alloc o) := fun x hx => Below.heap_alloc w o x (hF x hx)
theorem Keeps.setCell {F : Nat → Prop} (w : World) (a : Addr) (u : Value) (hF : ∀ x, F x → x ≠ a.block) : Keeps F w (w.setCell a u) := fun x hx => Below.heap_setCell w a u x (hF x hx)

theorem bcell {W w1 : World} {B : Nat} (hb : Below B W w1) : (∀ b o, b < B → w1.cell? ⟨b, o, none⟩ = W.cell? ⟨b, o, none⟩) ∧ (∀ b o, b < B → w1.frozen? ⟨b, o, none⟩ = W.frozen? ⟨b, o, none⟩) :=
  ⟨fun b o h => hb.cell (p := ⟨b, o, none⟩) h, fun b o h => hb.frozen (p := ⟨b, o, none⟩) h⟩
theorem gcell {W w1 : World} {row : Option Nat} (hb : W.grownBy w1 row) : (∀ b o, b < W.heap.size → some b ≠ row → w1.cell? ⟨b, o, none⟩ = W.cell? ⟨b, o, none⟩) ∧ (∀ b o, b < W.heap.size → some b ≠ row → w1.frozen? ⟨b, o, none⟩ = W.frozen? ⟨b, o, none⟩) :=
  ⟨fun b o h h' => hb.cell_far ⟨b, o, none⟩ h h', fun b o h h' => hb.frozen_far ⟨b, o, none⟩ h h'⟩

/-- n elements of 'size' cells lie where A leads, in blocks of F -/
def Row (F : Nat → Prop) (w : World) (size : Nat) (A : Option Addr) (n : Nat) (xs : List Value) : Prop :=
  xs.length = n * size ∧ (0 < n → ∃ b o, A = some ⟨b, o, none⟩ ∧ F b ∧ ∀ j u, xs[j]? = some u → w.cell? ⟨b, o + j, none⟩ = some u)

section
variable {F G : Nat → Prop} {w w' : World} {size n : Nat} {A : Option Addr} {xs : List Value}
theorem Row.keeps (h : Row F w size A n xs) (k : Keeps F w w') : Row F w' size A n xs :=
  ⟨h.1, fun hn => by
    obtain ⟨b, o, e, hF, hc⟩ := h.2 hn
    exact ⟨b, o, e, hF, fun j u hu => (World.cell?_of_block (a := ⟨b, o + j, none⟩) (k b hF)).trans (hc j u hu)⟩⟩
theorem Row.mono (h : Row F w size A n xs) (k : ∀ b, F b → G b) : Row G w size A n xs :=
  ⟨h.1, fun hn => by
    obtain ⟨b, o, e, hF, hc⟩ := h.2 hn
    exact ⟨b, o, e, k b hF, hc⟩⟩
theorem Row.take {m : Nat} (h : Row F w size A n xs) (hm : m ≤ n) : Row F w size A m (xs.take (m * size)) := by
  refine ⟨?_, fun hn => ?_⟩
  · rw [List.length_take, h.1]
    exact Nat.min_eq_left (Nat.mul_le_mul_right _ hm)
  · obtain ⟨b, o, e, hF, hc⟩ := h.2 (by omega)
    refine ⟨b, o, e, hF, fun j u hu => hc j u ?_⟩
    rw [List.getElem?_take] at hu
    split at hu
    · exact hu
    · cases hu
theorem Row.drop {m c : Nat} (h : Row F w size A n xs) (hm : m ≤ n) (hc : n ≤ c) : Row F w size (if c = m then A else A.map (·.add (m * size))) (n - m) (xs.drop (m * size)) := by
  refine ⟨by rw [List.length_drop, h.1, Nat.sub_mul], fun hn => ?_⟩
  obtain ⟨b, o, rfl, hF, hcell⟩ := h.2 (by omega)
  rw [if_neg (by omega)]
  refine ⟨b, o + m * size, ?_, hF, fun j u hu => ?_⟩
  · simp only [Option.map_some, Addr.add]
    split
    · rename_i h0; rw [h0]; rfl
    · rfl
  · rw [List.getElem?_drop] at hu
    rw [Nat.add_assoc]
    exact hcell _ u hu
theorem Row.nil_ : Row F w size A 0 [] := ⟨by simp, fun h => absurd h (by omega)⟩
theorem Row.of_own {base : Nat} {e : TypeId} {c : Nat} (h : w.ownsRow base e size (.slice A n c) n xs) (hF : ∀ g, (Value.slice A n c).ownBlock = some g → F g) : Row F w size A n xs := by
  refine ⟨h.1, fun hn => ?_⟩
  obtain ⟨g, cap, hv, _, _⟩ := h.form hn
  have hA : A = some ⟨g, 0, none⟩ := by injection hv
  subst hA
  refine ⟨g, 0, rfl, hF g rfl, fun j u hu => ?_⟩
  have := h.cells (g := g) rfl j u hu
  unfold Addr.add at this
  split at this
  · rename_i h0; subst h0; simpa using this
  · simpa using this
end

/-- A value of the thin package, as the six cells of its struct. -/
inductive RVAt (F : Nat → Prop) (w : World) : RV → List Value → Prop
  | mk {kind n : Int} {f : Nat} {s : ByteArray} {keys : List ByteArray} {l : List RV} {KA LA : Option Addr} {kc lc : Nat} {xs : List Value} :
    okInt kind → okInt n → f < B64 → s.size ≤ R47 → (∀ k ∈ keys, k.size ≤ R47) → keys.length * 16 ≤ R47 → l.length * 88 ≤ R47 → keys.length ≤ kc → kc ≤ maxLen → l.length ≤ lc → lc ≤ maxLen →
    Row F w 1 KA keys.length (keys.map Value.string) → Row F w 6 LA l.length xs → (∀ i r, l[i]? = some r → RVAt F w r ((xs.drop (i * 6)).take 6)) →
    RVAt F w (.mk kind n f s keys l) [.int .i64 kind, .int .i64 n, .float .f64 f, .string s, .slice KA keys.length kc, .slice LA l.length lc]

section
variable {F G : Nat → Prop} {w w' : World}
theorem RVAt.keeps {r : RV} {cs : List Value} (h : RVAt F w r cs) (k : Keeps F w w') : RVAt F w' r cs := by
  induction h with
  | mk h1 h2 h3 h4 h5 h6 h7 h8 h9 h10 h11 h12 h13 _ ih => exact .mk h1 h2 h3 h4 h5 h6 h7 h8 h9 h10 h11 (h12.keeps k) (h13.keeps k) ih
theorem RVAt.mono {r : RV} {cs : List Value} (h : RVAt F w r cs) (k : ∀ b, F b → G b) : RVAt G w r cs := by
  induction h with
  | mk h1 h2 h3 h4 h5 h6 h7 h8 h9 h10 h11 h12 h13 _ ih => exact .mk h1 h2 h3 h4 h5 h6 h7 h8 h9 h10 h11 (h12.mono k) (h13.mono k) ih
end

/-- A tree of the package, as an interface value. -/
inductive AnyAt (F : Nat → Prop) (w : World) : T → Value → Prop
  | null : AnyAt F w .null .nilIface
  | bool (b : Bool) : AnyAt F w (.bool b) (.iface 4 (.bool b))
  | int {n : Int} : okInt n → AnyAt F w (.int n) (.iface 2 (.int .i64 n))
  | flt {f : Nat} : f < B64 → AnyAt F w (.flt f) (.iface 29 (.float .f64 f))
  | str {s : ByteArray} : s.size ≤ R47 → AnyAt F w (.str s) (.iface 9 (.string s))
  | list {l : List T} {A : Option Addr} {c : Nat} {xs : List Value} : l.length * 88 ≤ R47 → l.length ≤ c → c ≤ maxLen → Row F w 1 A l.length xs →
    (∀ (i : Nat) t u, l[i]? = some t → xs[i]? = some u → AnyAt F w t u) → AnyAt F w (.list l) (.iface 254 (.slice A l.length c))
  | map {l : List (ByteArray × T)} {r : Nat} {val : ByteArray → Value} : l.length * 88 ≤ R47 → (∀ p ∈ l, p.1.size ≤ R47) → Sorted l → F r → MapIs w r (l.map Prod.fst) val →
    (∀ k t, (k, t) ∈ l → AnyAt F w t (val k)) → AnyAt F w (.map l) (.iface 255 (.map (some r)))

section
variable {F G : Nat → Prop} {w w' : World}
theorem AnyAt.keeps {t : T} {u : Value} (h : AnyAt F w t u) (k : Keeps F w w') : AnyAt F w' t u := by
  induction h with
  | null => exact .null
  | bool b => exact .bool b
  | int h => exact .int h
  | flt h => exact .flt h
  | str h => exact .str h
  | list h1 h2 h3 h4 _ ih => exact .list h1 h2 h3 (h4.keeps k) ih
  | map h1 h2 h3 h4 h5 _ ih => exact .map h1 h2 h3 h4 (h5.keep (k _ h4)) ih
theorem AnyAt.mono {t : T} {u : Value} (h : AnyAt F w t u) (k : ∀ b, F b → G b) : AnyAt G w t u := by
  induction h with
  | null => exact .null
  | bool b => exact .bool b
  | int h => exact .int h
  | flt h => exact .flt h
  | str h => exact .str h
  | list h1 h2 h3 h4 _ ih => exact .list h1 h2 h3 (h4.mono k) ih
  | map h1 h2 h3 h4 h5 _ ih => exact .map h1 h2 h3 (k _ h4) h5 ih
end

/-- the structs of the values rs, six cells each -/
def RVs (F : Nat → Prop) (w : World) (rs : List RV) (xs : List Value) : Prop := xs.length = rs.length * 6 ∧ ∀ (i : Nat) r, rs[i]? = some r → RVAt F w r ((xs.drop (i * 6)).take 6)
section
variable {F G : Nat → Prop} {w w' : World}
theorem RVAt.len {r : RV} {cs : List Value} (h : RVAt F w r cs) : cs.length = 6 := by cases h; rfl
theorem RVs.keeps {rs : List RV} {xs : List Value} (h : RVs F w rs xs) (k : Keeps F w w') : RVs F w' rs xs := ⟨h.1, fun i r hr => (h.2 i r hr).keeps k⟩
theorem RVs.mono {rs : List RV} {xs : List Value} (h : RVs F w rs xs) (k : ∀ b, F b → G b) : RVs G w rs xs := ⟨h.1, fun i r hr => (h.2 i r hr).mono k⟩
theorem RVs.nil_ : RVs F w [] [] := ⟨rfl, by simp⟩
theorem RVs.one {r : RV} {cs : List Value} (h : RVAt F w r cs) : RVs F w [r] cs := by
  have hl := h.len
  refine ⟨by simp [hl], fun i r' hr => ?_⟩
  cases i with
  | zero =>
    simp at hr
    subst hr
    rw [Nat.zero_mul, List.drop_zero, List.take_of_length_le (by omega)]
    exact h
  | succ i => simp at hr
theorem RVs.append {rs rs' : List RV} {xs xs' : List Value} (h : RVs F w rs xs) (h' : RVs F w rs' xs') : RVs F w (rs ++ rs') (xs ++ xs') := by
  have l1 := h.1
  have l2 := h'.1
  refine ⟨by simp only [List.length_append]; omega, fun i r hr => ?_⟩
  by_cases hi : i < rs.length
  · rw [List.getElem?_append_left hi] at hr
    have := h.2 i r hr
    rw [List.drop_append_of_le_length (by omega), List.take_append_of_le_length (by simp only [List.length_drop]; omega)]
    exact this
  · rw [List.getElem?_append_right (by omega)] at hr
    have := h'.2 _ r hr
    have e : i * 6 = xs.length + (i - rs.length) * 6 := by omega
    rw [e, List.drop_length_add_append]
    exact this
theorem RVs.take {rs : List RV} {xs : List Value} (h : RVs F w rs xs) (m : Nat) (hm : m ≤ rs.length) : RVs F w (rs.take m) (xs.take (m * 6)) := by
  have l1 := h.1
  refine ⟨by simp only [List.length_take]; omega, fun i r hr => ?_⟩
  have hi : i < m := by
    have := (List.getElem?_eq_some_iff.1 hr).1
    simp only [List.length_take] at this
    omega
  rw [List.getElem?_take, if_pos hi] at hr
  have := h.2 i r hr
  rw [List.drop_take, List.take_take, Nat.min_eq_left (by omega)]
  exact this
theorem RVs.drop {rs : List RV} {xs : List Value} (h : RVs F w rs xs) (m : Nat) : RVs F w (rs.drop m) (xs.drop (m * 6)) := by
  have l1 := h.1
  refine ⟨by simp only [List.length_drop]; omega, fun i r hr => ?_⟩
  rw [List.getElem?_drop] at hr
  have := h.2 _ r hr
  rw [List.drop_drop]
  have e : m * 6 + i * 6 = (m + i) * 6 := by omega
  rw [e]
  exact this
theorem RVs.ones {rs : List RV} {xs : List Value} (h : RVs F w rs xs) : ∀ u ∈ xs, u.oneCell' = true := by
  intro u hu
  obtain ⟨j, hj⟩ := List.getElem?_of_mem hu
  have hjl := (List.getElem?_eq_some_iff.1 hj).1
  have l1 := h.1
  have hi : j / 6 < rs.length := by omega
  have hr := h.2 (j / 6) rs[j / 6] (List.getElem?_eq_getElem hi)
  have hu' : ((xs.drop (j / 6 * 6)).take 6)[j % 6]? = some u := by
    rw [List.getElem?_take, if_pos (by omega), List.getElem?_drop]
    have : j / 6 * 6 + j % 6 = j := by omega
    rw [this]
    exact hj
  have hm := List.mem_of_getElem? hu'
  generalize (xs.drop (j / 6 * 6)).take 6 = cs at hr hm
  generalize rs[j / 6] = r at hr
  cases hr
  simp only [List.mem_cons, List.not_mem_nil, or_false] at hm
  rcases hm with rfl | rfl | rfl | rfl | rfl | rfl <;> rfl
end

/-! new memory -/
/-- the blocks from B on -/
def Fr (B : Nat) (w : World) : Nat → Prop := fun b => B ≤ b ∧ b < w.heap.size
/-- the blocks from B on but for v's own -/
def FrX (B : Nat) (w : World) (v : Value) : Nat → Prop := fun b => B ≤ b ∧ b < w.heap.size ∧ some b ≠ v.ownBlock
/-- all blocks -/
def Old (w : World) : Nat → Prop := fun b => b < w.heap.size

theorem ownsRow_below {w w' : World} {B base : Nat} {e : TypeId} {size n : Nat} {v : Value} {xs : List Value} (h : w.ownsRow base e size v n xs) (hb : Below B w w') (hB : w.heap.size ≤ B) : w'.ownsRow base e size v n xs := by
  obtain ⟨h1, h2⟩ := h
  refine ⟨h1, ?_⟩
  rcases h2 with h2 | ⟨g, cap, cur, hv, hg, hh, r⟩
  · exact Or.inl h2
  · have hlt : g < w.heap.size := (Array.getElem?_eq_some_iff.1 hh).1
    exact Or.inr ⟨g, cap, cur, hv, hg, (hb.block g (by omega)).trans hh, r⟩
/-- the six cells of an element of a row of structs of six cells -/
theorem row6_at {F : Nat → Prop} {w : World} {A : Option Addr} {n k : Nat} {xs : List Value} {c0 c1 c2 c3 c4 c5 : Value} (h : Row F w 6 A n xs) (hk : k < n) (hcs : (xs.drop (k * 6)).take 6 = [c0, c1, c2, c3, c4, c5]) :
    ∃ b o, A = some ⟨b, o, none⟩ ∧ F b ∧ w.cell? ⟨b, o + k * 6, none⟩ = some c0 ∧ w.cell? ⟨b, o + k * 6 + 1, none⟩ = some c1 ∧ w.cell? ⟨b, o + k * 6 + 2, none⟩ = some c2 ∧
      w.cell? ⟨b, o + k * 6 + 3, none⟩ = some c3 ∧ w.cell? ⟨b, o + k * 6 + 4, none⟩ = some c4 ∧ w.cell? ⟨b, o + k * 6 + 5, none⟩ = some c5 := by
  obtain ⟨b, o, e, hF, hc⟩ := h.2 (by omega)
  have g : ∀ j u, j < 6 → [c0, c1, c2, c3, c4, c5][j]? = some u → w.cell? ⟨b, o + k * 6 + j, none⟩ = some u := by
    intro j u hj hu
    rw [← hcs, List.getElem?_take, if_pos hj, List.getElem?_drop] at hu
    rw [Nat.add_assoc]
    exact hc _ _ hu
  exact ⟨b, o, e, hF, g 0 _ (by omega) rfl, g 1 _ (by omega) rfl, g 2 _ (by omega) rfl, g 3 _ (by omega) rfl, g 4 _ (by omega) rfl, g 5 _ (by omega) rfl⟩
theorem row1_at {F : Nat → Prop} {w : World} {A : Option Addr} {n k : Nat} {xs : List Value} {u : Value} (h : Row F w 1 A n xs) (hk : k < n) (hu : xs[k]? = some u) :
    ∃ b o, A = some ⟨b, o, none⟩ ∧ F b ∧ w.cell? ⟨b, o + k, none⟩ = some u := by
  obtain ⟨b, o, e, hF, hc⟩ := h.2 (by omega)
  exact ⟨b, o, e, hF, hc _ _ hu⟩

/-- the values us stand for the trees ts -/
def AnysAt (F : Nat → Prop) (w : World) (ts : List T) (us : List Value) : Prop := ∀ (i : Nat) t u, ts[i]? = some t → us[i]? = some u → AnyAt F w t u
theorem AnysAt.keeps {F G : Nat → Prop} {w w' : World} {ts : List T} {us : List Value} (h : AnysAt F w ts us) (k : Keeps F w w') (g : ∀ b, F b → G b) : AnysAt G w' ts us :=
  fun i t u ht hu => ((h i t u ht hu).keeps k).mono g
theorem AnysAt.snoc {F : Nat → Prop} {w : World} {ts : List T} {us : List Value} {t : T} {u : Value} (h : AnysAt F w ts us) (hl : us.length = ts.length) (hu : AnyAt F w t u) : AnysAt F w (ts ++ [t]) (us ++ [u]) := by
  intro i t' u' ht hu'
  rcases Nat.lt_trichotomy i ts.length with hi | hi | hi
  · rw [List.getElem?_append_left hi] at ht
    rw [List.getElem?_append_left (by omega)] at hu'
    exact h i t' u' ht hu'
  · rw [List.getElem?_append_right (by omega)] at ht hu'
    simp [hi, hl] at ht hu'
    subst ht; subst hu'
    exact hu
  · rw [List.getElem?_append_right (by omega)] at ht
    rw [List.getElem?_eq_none (by simp; omega)] at ht
    cases ht

/-- an interface value lies in one cell: as the walk reads it -/
theorem AnyAt.one {F : Nat → Prop} {w : World} {t : T} {u : Value} (h : AnyAt F w t u) : u.cells = #[u] ∧ u.oneCell' = true := by cases h <;> exact ⟨rfl, rfl⟩

/-- a call that makes an interface value for the tree t -/
def GivesAny (t : T) (w : World) (e : Ending) (w' : World) : Prop := ∃ u, e = .returned u ∧ AnyAt (Fr w.heap.size w') w' t u ∧ Below w.heap.size w w'

end Go.Proofs.YtajeghkjppkhcaaGreat

/-!
  append of a row that lies somewhere (a nil one too) onto a row of the call's own; blocks that are known whole.
-/

namespace Go.Proofs.YtajeghkjppkhcaaGreat
open Go.RowKit

/-- block g is just these cells, none of them frozen -/
def Bk (w : World) (g : Nat) (t : TypeId) (cs : Array Value) : Prop := w.heap[g]? = some (.cells cs t (0, 0))
section
variable {w w' : World} {g : Nat} {t : TypeId} {cs : Array Value}
theorem Bk.lt (h : Bk w g t cs) : g < w.heap.size := (Array.getElem?_eq_some_iff.1 h).1
theorem Bk.cell (h : Bk w g t cs) (i : Nat) : w.cell? ⟨g, i, none⟩ = cs[i]? := cell_of_row w g i cs t (0, 0) h
theorem Bk.free (h : Bk w g t cs) (i : Nat) : w.frozen? ⟨g, i, none⟩ = false := by unfold Bk at h; simp [World.frozen?, h]
theorem Bk.new (w : World) (t : TypeId) (cs : Array Value) : Bk (w.alloc (.cells cs t)) w.heap.size t cs := heap_alloc_new w _
theorem Bk.alloc (h : Bk w g t cs) (o : Obj) : Bk (w.alloc o) g t cs := (Below.heap_alloc w o g h.lt).trans h
theorem Bk.drewN (h : Bk w g t cs) (n : Nat) : Bk (w.drewN n) g t cs := h
theorem Bk.drew (h : Bk w g t cs) : Bk w.drew g t cs := h
theorem Bk.below {B : Nat} (h : Bk w g t cs) (hb : Below B w w') (hg : g < B) : Bk w' g t cs := (hb.block g hg).trans h
theorem Bk.grown {row : Option Nat} (h : Bk w g t cs) (hb : w.grownBy w' row) (hg : some g ≠ row) : Bk w' g t cs := (hb.block g h.lt hg).trans h
theorem Bk.set_ (h : Bk w g t cs) (i : Nat) (u : Value) : Bk (w.setCell ⟨g, i, none⟩ u) g t (cs.setIfInBounds i u) := by
  unfold Bk at h ⊢
  simp [World.setCell, Array.getElem?_modify, h]
theorem Bk.far (h : Bk w g t cs) {p : Addr} (hp : g ≠ p.block) (u : Value) : Bk (w.setCell p u) g t cs := (Below.heap_setCell w p u g hp).trans h
theorem Bk.ne_ {g' : Nat} {t' : TypeId} {cs' : Array Value} (h : Bk w g t cs) (h' : Bk w g' t' cs') (hne : t ≠ t') : g ≠ g' := by
  rintro rfl
  unfold Bk at h h'
  rw [h] at h'
  injection h' with h'
  injection h' with _ ht
  exact hne ht
theorem own_ne {base : Nat} {e : TypeId} {size n : Nat} {v : Value} {xs : List Value} (h : w.ownsRow base e size v n xs) (hg : Bk w g t cs) (hne : e ≠ t) : some g ≠ v.ownBlock := by
  rcases h.2 with ⟨rfl, _⟩ | ⟨g', cap, cur, rfl, _, hh, _⟩
  · simp [Value.ownBlock]
  · intro he
    have e1 : g = g' := by simpa [Value.ownBlock] using he
    subst e1
    exact Bk.ne_ (t := e) hh hg hne rfl
theorem own_form {base : Nat} {e : TypeId} {size n : Nat} {v : Value} {xs : List Value} (h : w.ownsRow base e size v n xs) : ∃ A c, v = .slice A n c ∧ n ≤ c ∧ c ≤ maxLen := by
  rcases h.2 with ⟨e, h0⟩ | ⟨g, cap, cur, e, _, _, h3, h4, _⟩
  · exact ⟨none, 0, by rw [e, h0], by omega, by unfold maxLen; omega⟩
  · exact ⟨_, cap, e, h3, h4⟩
end

/-- the cells of a block that was just laid -/
theorem cells_at (w : World) (cs : List Value) (t : TypeId) (n : Nat) (h : w.heap.size = n) : ∀ (j : Nat) u, cs[j]? = some u → (w.alloc (.cells cs.toArray t)).cell? ((⟨n, 0, none⟩ : Addr).add j) = some u := by
  subst h
  intro j u hu
  have := (Bk.new w t cs.toArray).cell j
  unfold Addr.add
  split
  · rename_i h0
    subst h0
    rw [this]
    simpa using hu
  · rw [Nat.zero_add, this]
    simpa using hu

section
variable {P : Program} (w : World)
theorem run_append_row (base : Nat) (t ty e : TypeId) (i : TypeInfo) (z : Value) (size bytes : Nat) (ht : P.underlying t = some (.slice e)) (hi : P.info? e = some i) (hz : i.zero = some z)
    (hsize : i.size = size) (hby : i.bytes = bytes) (hzs : z.cells.size = size) (hsz : 0 < size)
    (v : Value) (n : Nat) (xs : List Value) (hown : w.ownsRow base e size v n xs)
    (F : Nat → Prop) (A : Option Addr) (m c : Nat) (news : List Value) (hr : Row F w size A m news) (h1 : ∀ u ∈ news, u.oneCell' = true)
    (hbytes : (n + m) * bytes ≤ 140737488355328) (hb1 : 0 < bytes) (hbase : base ≤ w.heap.size) :
    ∃ v' w', (Builtin.append_ #[t, t] ty #[v, .slice A m c]).run P w = .ok v' w' ∧ w'.ownsRow base e size v' (n + m) (xs ++ news) ∧ w.grownBy w' v.ownBlock ∧ (v'.ownBlock = v.ownBlock ∨ v'.ownBlock = some w.heap.size) := by
  have h63 : n + m ≤ maxLen := by
    have : n + m ≤ (n + m) * bytes := Nat.le_mul_of_pos_right _ hb1
    unfold maxLen
    omega
  by_cases h0 : m = 0
  · subst h0
    have hn : news = [] := List.eq_nil_of_length_eq_zero (by simpa using hr.1)
    subst hn
    cases A with
    | some a =>
      obtain ⟨v', w', q1, q2, q3, _, q5⟩ := run_append_own_at (P := P) w base t ty e i z size bytes ht hi hz hsize hby hzs hsz v n xs hown a 0 c [] (by simp) (by simp) (by simp) h63 hbytes hbase
      exact ⟨v', w', q1, q2, q3, q5⟩
    | none =>
      refine ⟨v, w, ?_, by simpa using hown, World.grownBy.refl w _, .inl rfl⟩
      rcases hown.2 with ⟨rfl, rfl⟩ | ⟨g, cap, cur, rfl, _, _, hnc, _⟩
      · simp [Builtin.append_, run_underlying ht, sizeOf, typeInfo, hi, Builtin.lenOf, Builtin.firstCells]
      · simp [Builtin.append_, run_underlying ht, sizeOf, typeInfo, hi, Builtin.lenOf, Builtin.firstCells, hnc, storeCells]
  · obtain ⟨b, o, rfl, _, hc⟩ := hr.2 (by omega)
    obtain ⟨v', w', q1, q2, q3, _, q5⟩ := run_append_own_at (P := P) w base t ty e i z size bytes ht hi hz hsize hby hzs hsz v n xs hown ⟨b, o, none⟩ m c news hr.1 (fun j u hu => by
      have := hc j u hu
      unfold Addr.add
      split
      · rename_i h; subst h; simpa using this
      · exact this) h1 h63 hbytes hbase
    exact ⟨v', w', q1, q2, q3, q5⟩

theorem wp_append_row {o : Oper} {a : Act} {K : Act → World → Prop} {Q : Exit → Act → World → Prop} (s x : Operand) (t : TypeId)
    (ho : o.op = .call { callee := .builtin .append, args := #[s, x], argTypes := #[t, t] })
    (base : Nat) (e : TypeId) (i : TypeInfo) (z : Value) (size bytes : Nat) (ht : P.underlying t = some (.slice e)) (hi : P.info? e = some i) (hz : i.zero = some z)
    (hsize : i.size = size) (hby : i.bytes = bytes) (hzs : z.cells.size = size) (hsz : 0 < size)
    (v : Value) (n : Nat) (xs : List Value) (hs : a.eval s = v) (hown : w.ownsRow base e size v n xs)
    (F : Nat → Prop) (A : Option Addr) (m c : Nat) (news : List Value) (hx : a.eval x = .slice A m c) (hr : Row F w size A m news) (h1 : ∀ u ∈ news, u.oneCell' = true)
    (hbytes : (n + m) * bytes ≤ 140737488355328) (hb1 : 0 < bytes) (hbase : base ≤ w.heap.size)
    (h : ∀ v' w', w'.ownsRow base e size v' (n + m) (xs ++ news) → w.grownBy w' v.ownBlock → (v'.ownBlock = v.ownBlock ∨ v'.ownBlock = some w.heap.size) → K (a.put o.dst v') w') : o.wp P a w K Q := by
  obtain ⟨v', w', hrun, h2, h3, h4⟩ := run_append_row (P := P) w base t o.type e i z size bytes ht hi hz hsize hby hzs hsz v n xs hown F A m c news hr h1 hbytes hb1 hbase
  unfold Oper.wp execOp
  simp only [ho, resolve, invoke, builtin, Sem.run_bind, Sem.run_pure, Result.andThen_ok, List.map_toArray, List.map_cons, List.map_nil, hs, hx, hrun]
  exact h v' w' h2 h3 h4

theorem wpList_append_row {ops : Array Oper} {rest : List Oper} {o : Oper} {a : Act} {Q : Exit → Act → World → Prop} (hgd : o.guard = none) (s x : Operand) (t : TypeId)
    (ho : o.op = .call { callee := .builtin .append, args := #[s, x], argTypes := #[t, t] })
    (base : Nat) (e : TypeId) (i : TypeInfo) (z : Value) (size bytes : Nat) (ht : P.underlying t = some (.slice e)) (hi : P.info? e = some i) (hz : i.zero = some z)
    (hsize : i.size = size) (hby : i.bytes = bytes) (hzs : z.cells.size = size) (hsz : 0 < size)
    (v : Value) (n : Nat) (xs : List Value) (hs : a.eval s = v) (hown : w.ownsRow base e size v n xs)
    (F : Nat → Prop) (A : Option Addr) (m c : Nat) (news : List Value) (hx : a.eval x = .slice A m c) (hr : Row F w size A m news) (h1 : ∀ u ∈ news, u.oneCell' = true)
    (hbytes : (n + m) * bytes ≤ 140737488355328) (hb1 : 0 < bytes) (hbase : base ≤ w.heap.size)
    (h : ∀ v' w', w'.ownsRow base e size v' (n + m) (xs ++ news) → w.grownBy w' v.ownBlock → (v'.ownBlock = v.ownBlock ∨ v'.ownBlock = some w.heap.size) → wpList P ops Q rest (a.put o.dst v') w') : wpList P ops Q (o :: rest) a w :=
  wpList_plain hgd fun _ hK => wp_append_row w s x t ho base e i z size bytes ht hi hz hsize hby hzs hsz v n xs hs hown F A m c news hx hr h1 hbytes hb1 hbase fun v' w' h2 h3 h4 => hK _ _ (h v' w' h2 h3 h4)

end

end Go.Proofs.YtajeghkjppkhcaaGreat
