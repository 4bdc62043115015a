/-
  Several texts in one: Base, Order.
-/
import Derived.WalkKit
import Derived.WideShapes
import Derived.Lib.Strings
import Derived.Maps.RangeRun
import Derived.Below
import Derived.MapKept
import Derived.WideLaws
import Derived.OwnWalk
import Derived.Laws.Entries
import Derived.Deep.AppendLies
import Derived.Maps.AppendAt
import Derived.RegionTactic
import Derived.Deep.RegionHeld3
import Derived.BigQuiet
import Derived.Deep.QuietTactic
import Derived.Lib.Bytealg
set_option linter.unusedVariables false
set_option linter.unusedSimpArgs false
/-!
  Several texts in one: Tree, Maps, Mem, Append.
-/

/-!
  Plain definitions and lemmas, no program in sight: trees of values, their raw form as the program's struct, keys in order, insertion of a field.
-/

namespace Go.Proofs.YtajeghkjppkhcaaGreat

theorem less_lt (x : List UInt8) : ∀ y : List UInt8, Op.bytesLess x y = decide (x < y) := by
  induction x with
  | nil => intro y; cases y <;> simp [Op.bytesLess]
  | cons a x ih =>
    intro y
    cases y with
    | nil => simp [Op.bytesLess]
    | cons b y =>
      rw [Op.bytesLess, ih y]
      simp only [List.cons_lt_cons_iff]
      by_cases h1 : a < b <;> by_cases h2 : a = b <;> by_cases h3 : x < y <;> simp [h1, h2, h3]

/-- Go's '<' on strings. -/
def klt (a b : ByteArray) : Bool := Op.bytesLess a.toList b.toList

theorem klt_iff (a b : ByteArray) : klt a b = true ↔ a.data.toList < b.data.toList := by
  unfold klt
  rw [less_lt, Lib.toList_data, Lib.toList_data, decide_eq_true_iff]
theorem bytes_ext {a b : ByteArray} (h : a.data.toList = b.data.toList) : a = b := Go.WideShapes.bytes_inj h
theorem u8lt_irrefl (a : UInt8) : ¬ a < a := by simp
theorem klt_irrefl (a : ByteArray) : klt a a = false := by
  rw [Bool.eq_false_iff]; intro h
  exact List.lt_irrefl _ ((klt_iff a a).1 h)
theorem klt_trans {a b c : ByteArray} (h : klt a b = true) (h' : klt b c = true) : klt a c = true :=
  (klt_iff a c).2 (List.lt_trans ((klt_iff a b).1 h) ((klt_iff b c).1 h'))
theorem klt_asymm {a b : ByteArray} (h : klt a b = true) : klt b a = false := by
  rw [Bool.eq_false_iff]; intro h'
  have := klt_trans h h'
  rw [klt_irrefl] at this; cases this
theorem klt_ne {a b : ByteArray} (h : klt a b = true) : a ≠ b := by
  rintro rfl; rw [klt_irrefl] at h; cases h
theorem klt_total (a b : ByteArray) : a = b ∨ klt a b = true ∨ klt b a = true := by
  by_cases h : klt a b = true
  · exact .inr (.inl h)
  · by_cases h' : klt b a = true
    · exact .inr (.inr h')
    · left
      rw [klt_iff] at h h'
      exact bytes_ext (List.le_antisymm (List.not_lt.1 h') (List.not_lt.1 h))
theorem klt_of_not {a b : ByteArray} (h : klt a b = false) (hne : a ≠ b) : klt b a = true := by
  rcases klt_total a b with h1 | h1 | h1
  · exact absurd h1 hne
  · rw [h] at h1; cases h1
  · exact h1

/-- a value, as the package sees it -/
inductive T where
  | null
  | bool (b : Bool)
  | int (n : Int)
  | flt (f : Nat)
  | str (s : ByteArray)
  | list (l : List T)
  | map (l : List (ByteArray × T))

/-- a value, as the thin package's struct holds it -/
inductive RV where
  | mk (kind n : Int) (f : Nat) (s : ByteArray) (keys : List ByteArray) (l : List RV)

/-- the entry (k, v) laid into a list of entries in order -/
def ins {α : Type} (k : ByteArray) (v : α) : List (ByteArray × α) → List (ByteArray × α)
  | [] => [(k, v)]
  | p :: r => if klt p.1 k then p :: ins k v r else if p.1 = k then (k, v) :: r else (k, v) :: p :: r

/-- how many keys stand before k -/
def cnt {α : Type} (k : ByteArray) : List (ByteArray × α) → Nat
  | [] => 0
  | p :: r => if klt p.1 k then cnt k r + 1 else 0

def Sorted {α : Type} (l : List (ByteArray × α)) : Prop := l.Pairwise fun p q => klt p.1 q.1 = true

section
variable {α β : Type}

theorem cnt_le (k : ByteArray) (l : List (ByteArray × α)) : cnt k l ≤ l.length := by
  induction l with
  | nil => simp [cnt]
  | cons p r ih => simp only [cnt, List.length_cons]; split <;> omega
theorem ins_eq (k : ByteArray) (v : α) (l : List (ByteArray × α)) :
    ins k v l = l.take (cnt k l) ++ (k, v) :: l.drop (if (l[cnt k l]?).map Prod.fst = some k then cnt k l + 1 else cnt k l) := by
  induction l with
  | nil => simp [ins, cnt]
  | cons p r ih =>
    simp only [ins, cnt]
    by_cases h : klt p.1 k = true
    · simp only [h, if_true, List.take_succ_cons, List.cons_append, List.getElem?_cons_succ]
      rw [ih]
      congr 2
      by_cases h2 : (r[cnt k r]?).map Prod.fst = some k
      · simp [h2]
      · simp [h2]
    · simp only [h, Bool.false_eq_true, if_false, List.take_zero, List.nil_append, List.getElem?_cons_zero, Option.map_some, Option.some.injEq]
      by_cases h2 : p.1 = k <;> simp [h2]
theorem mem_ins {k : ByteArray} {v : α} {l : List (ByteArray × α)} {p : ByteArray × α} (h : p ∈ ins k v l) : p = (k, v) ∨ p ∈ l := by
  induction l with
  | nil => simp [ins] at h; exact .inl h
  | cons q r ih =>
    simp only [ins] at h
    split at h
    · rcases List.mem_cons.1 h with h | h
      · exact .inr (by simp [h])
      · rcases ih h with h | h
        · exact .inl h
        · exact .inr (by simp [h])
    · split at h
      · rcases List.mem_cons.1 h with h | h
        · exact .inl h
        · exact .inr (by simp [h])
      · rcases List.mem_cons.1 h with h | h
        · exact .inl h
        · exact .inr h
theorem mem_ins_iff {k : ByteArray} {v : α} {l : List (ByteArray × α)} (hs : Sorted l) (p : ByteArray × α) : p ∈ ins k v l ↔ p = (k, v) ∨ (p ∈ l ∧ p.1 ≠ k) := by
  induction l with
  | nil => simp [ins]
  | cons q r ih =>
    obtain ⟨h1, h2⟩ := List.pairwise_cons.1 hs
    simp only [ins]
    by_cases h : klt q.1 k = true
    · simp only [h, if_true, List.mem_cons, ih h2]
      constructor
      · rintro (rfl | h3 | ⟨h3, h4⟩)
        · exact .inr ⟨.inl rfl, klt_ne h⟩
        · exact .inl h3
        · exact .inr ⟨.inr h3, h4⟩
      · rintro (h3 | ⟨h3 | h3, h4⟩)
        · exact .inr (.inl h3)
        · exact .inl h3
        · exact .inr (.inr ⟨h3, h4⟩)
    · by_cases h3 : q.1 = k
      · rw [if_neg h, if_pos h3]
        simp only [List.mem_cons]
        constructor
        · rintro (h4 | h4)
          · exact .inl h4
          · exact .inr ⟨.inr h4, fun e => klt_ne (h1 p h4) (h3.trans e.symm)⟩
        · rintro (h4 | ⟨rfl | h4, h5⟩)
          · exact .inl h4
          · exact absurd h3 h5
          · exact .inr h4
      · simp only [h, h3, Bool.false_eq_true, if_false, List.mem_cons]
        have hk : klt k q.1 = true := klt_of_not (by simpa using h) h3
        constructor
        · rintro (h4 | rfl | h4)
          · exact .inl h4
          · exact .inr ⟨.inl rfl, h3⟩
          · exact .inr ⟨.inr h4, fun e => by have := klt_trans hk (h1 p h4); rw [e, klt_irrefl] at this; cases this⟩
        · rintro (h4 | ⟨h4, _⟩)
          · exact .inl h4
          · exact .inr h4
theorem ins_sorted {k : ByteArray} {v : α} {l : List (ByteArray × α)} (hs : Sorted l) : Sorted (ins k v l) := by
  induction l with
  | nil => simp [ins, Sorted]
  | cons q r ih =>
    obtain ⟨h1, h2⟩ := List.pairwise_cons.1 hs
    simp only [ins]
    by_cases h : klt q.1 k = true
    · simp only [h, if_true]
      refine List.pairwise_cons.2 ⟨fun p hp => ?_, ih h2⟩
      rcases mem_ins hp with rfl | hp
      · exact h
      · exact h1 p hp
    · by_cases h3 : q.1 = k
      · rw [if_neg h, if_pos h3]
        exact List.pairwise_cons.2 ⟨fun p hp => by have := h1 p hp; rwa [h3] at this, h2⟩
      · simp only [h, h3, Bool.false_eq_true, if_false]
        have hk : klt k q.1 = true := klt_of_not (by simpa using h) h3
        refine List.pairwise_cons.2 ⟨fun p hp => ?_, hs⟩
        rcases List.mem_cons.1 hp with rfl | hp
        · exact hk
        · exact klt_trans hk (h1 p hp)
theorem ins_length (k : ByteArray) (v : α) (l : List (ByteArray × α)) : (ins k v l).length ≤ l.length + 1 := by
  induction l with
  | nil => simp [ins]
  | cons q r ih => simp only [ins]; split <;> (try split) <;> simp_all
theorem ins_map (f : α → β) (k : ByteArray) (v : α) (l : List (ByteArray × α)) : (ins k v l).map (fun p => (p.1, f p.2)) = ins k (f v) (l.map fun p => (p.1, f p.2)) := by
  induction l with
  | nil => simp [ins]
  | cons q r ih => simp only [ins, List.map_cons]; split <;> (try split) <;> simp_all
theorem sorted_nodup {l : List (ByteArray × α)} (h : Sorted l) : (l.map Prod.fst).Nodup := by
  unfold List.Nodup
  rw [List.pairwise_map]
  exact h.imp fun h => klt_ne h
theorem keys_ins {k : ByteArray} {v : α} {l : List (ByteArray × α)} (hs : Sorted l) (x : ByteArray) : x ∈ (ins k v l).map Prod.fst ↔ x = k ∨ x ∈ l.map Prod.fst := by
  simp only [List.mem_map]
  constructor
  · rintro ⟨p, hp, rfl⟩
    rcases (mem_ins_iff hs p).1 hp with rfl | ⟨hp, _⟩
    · exact .inl rfl
    · exact .inr ⟨p, hp, rfl⟩
  · rintro (rfl | ⟨p, hp, rfl⟩)
    · exact ⟨(x, v), (mem_ins_iff hs _).2 (.inl rfl), rfl⟩
    · by_cases e : p.1 = k
      · exact ⟨(k, v), (mem_ins_iff hs _).2 (.inl rfl), e.symm⟩
      · exact ⟨p, (mem_ins_iff hs _).2 (.inr ⟨hp, e⟩), rfl⟩
theorem cnt_lt {k : ByteArray} {l : List (ByteArray × α)} (hs : Sorted l) : ∀ (i : Nat) (h : i < l.length), klt (l[i]).1 k = true ↔ i < cnt k l := by
  induction l with
  | nil => intro i h; simp at h
  | cons p r ih =>
    obtain ⟨h1, h2⟩ := List.pairwise_cons.1 hs
    intro i h
    simp only [cnt]
    cases i with
    | zero => simp only [List.getElem_cons_zero]; split <;> rename_i hp <;> simp [hp]
    | succ i =>
      simp only [List.getElem_cons_succ]
      have hi : i < r.length := by simpa using h
      split
      · rename_i hp
        rw [ih h2 i hi]; omega
      · rename_i hp
        constructor
        · intro hk
          exact absurd (klt_trans (h1 _ (List.getElem_mem hi)) hk) hp
        · intro h; omega
/-- the map that a list of keys with a list of values makes: of equal keys the last one counts -/
def mapOf (keys : List ByteArray) (l : List α) : List (ByteArray × α) := (keys.zip l).foldl (fun m p => ins p.1 p.2 m) []
theorem foldl_ins_sorted (l : List (ByteArray × α)) : ∀ m, Sorted m → Sorted (l.foldl (fun m p => ins p.1 p.2 m) m) := by
  induction l with
  | nil => intro m h; exact h
  | cons p r ih => intro m h; exact ih _ (ins_sorted h)
theorem foldl_ins_keys (l : List (ByteArray × α)) : ∀ m p, p ∈ l.foldl (fun m p => ins p.1 p.2 m) m → p ∈ m ∨ p ∈ l := by
  induction l with
  | nil => intro m p h; exact .inl h
  | cons q r ih =>
    intro m p h
    rcases ih _ _ h with h | h
    · rcases mem_ins h with h | h
      · exact .inr (by rw [h]; simp)
      · exact .inl h
    · exact .inr (by simp [h])
theorem mapOf_keys (keys : List ByteArray) (l : List α) (p : ByteArray × α) (h : p ∈ mapOf keys l) : p.1 ∈ keys := by
  rcases foldl_ins_keys _ _ _ h with h | h
  · cases h
  · exact (List.of_mem_zip h).1
theorem mapOf_sorted (keys : List ByteArray) (l : List α) : Sorted (mapOf keys l) := foldl_ins_sorted _ _ List.Pairwise.nil
theorem foldl_ins_length (l : List (ByteArray × α)) : ∀ m, (l.foldl (fun m p => ins p.1 p.2 m) m).length ≤ m.length + l.length := by
  induction l with
  | nil => intro m; simp
  | cons p r ih => intro m; have h1 := ih (ins p.1 p.2 m); have h2 := ins_length p.1 p.2 m; simp only [List.foldl_cons, List.length_cons]; omega
theorem mapOf_take_length (keys : List ByteArray) (l : List α) (k : Nat) : (mapOf (keys.take k) (l.take k)).length ≤ k := by
  have := foldl_ins_length ((keys.take k).zip (l.take k)) []
  simp only [List.length_nil, List.length_zip, List.length_take] at this
  unfold mapOf
  omega
theorem zip_take (k : Nat) : ∀ (a : List α) (b : List β), (a.take k).zip (b.take k) = (a.zip b).take k := by
  induction k with
  | zero => intro a b; simp
  | succ k ih => intro a b; cases a <;> cases b <;> simp [ih]
theorem mapOf_take_succ (keys : List ByteArray) (l : List α) (k : Nat) (hk : k < keys.length) (hl : k < l.length) :
    mapOf (keys.take (k + 1)) (l.take (k + 1)) = ins keys[k] l[k] (mapOf (keys.take k) (l.take k)) := by
  unfold mapOf
  rw [zip_take, zip_take, List.take_succ_eq_append_getElem (by simp; omega), List.foldl_append]
  simp
theorem mapOf_take_all (keys : List ByteArray) (l : List α) (k : Nat) (h : keys.length ≤ k ∨ l.length ≤ k) : mapOf (keys.take k) (l.take k) = mapOf keys l := by
  unfold mapOf
  rw [zip_take, List.take_of_length_le (by simp; omega)]
end

noncomputable def RV.rank (r : RV) : Nat := SizeOf.sizeOf r
theorem RV.rank_lt {kind n : Int} {f : Nat} {s : ByteArray} {keys : List ByteArray} {l : List RV} {r : RV} (h : r ∈ l) : r.rank < (RV.mk kind n f s keys l).rank := by
  have h1 := List.sizeOf_lt_of_mem h
  unfold RV.rank
  simp only [RV.mk.sizeOf_spec]
  omega
noncomputable def T.rank (t : T) : Nat := SizeOf.sizeOf t
theorem T.rank_list {l : List T} {t : T} (h : t ∈ l) : t.rank < (T.list l).rank := by
  have h1 := List.sizeOf_lt_of_mem h
  unfold T.rank
  simp only [T.list.sizeOf_spec]
  omega
theorem T.rank_map {l : List (ByteArray × T)} {k : ByteArray} {t : T} (h : (k, t) ∈ l) : t.rank < (T.map l).rank := by
  have h1 := List.sizeOf_lt_of_mem h
  unfold T.rank
  simp only [T.map.sizeOf_spec, Prod.mk.sizeOf_spec] at *
  omega

mutual
def RV.tree : RV → T
  | .mk kind n f s keys l =>
    if kind = 1 then .bool (n != 0)
    else if kind = 2 then .int n
    else if kind = 3 then .flt f
    else if kind = 4 then .str s
    else if kind = 5 then .list (RV.treeL l)
    else if kind = 6 then .map (mapOf keys (RV.treeL l))
    else .null
def RV.treeL : List RV → List T
  | [] => []
  | r :: rs => r.tree :: RV.treeL rs
end
theorem treeL_eq (l : List RV) : RV.treeL l = l.map RV.tree := by
  induction l with
  | nil => simp [RV.treeL]
  | cons r rs ih => simp [RV.treeL, ih]

/-- the fields of a value, whatever its kind says -/
def RV.fieldsOf : RV → T
  | .mk _ _ _ _ keys l => .map (mapOf keys (l.map RV.tree))

mutual
/-- the plain form of a tree -/
def T.toRV : T → RV
  | .null => .mk 0 0 0 ByteArray.empty [] []
  | .bool b => .mk 1 (if b then 1 else 0) 0 ByteArray.empty [] []
  | .int n => .mk 2 n 0 ByteArray.empty [] []
  | .flt f => .mk 3 0 f ByteArray.empty [] []
  | .str s => .mk 4 0 0 s [] []
  | .list l => .mk 5 0 0 ByteArray.empty [] (T.toRVL l)
  | .map l => .mk 6 0 0 ByteArray.empty (l.map Prod.fst) (T.toRVM l)
def T.toRVL : List T → List RV
  | [] => []
  | t :: r => t.toRV :: T.toRVL r
def T.toRVM : List (ByteArray × T) → List RV
  | [] => []
  | (_, t) :: r => t.toRV :: T.toRVM r
end
theorem toRVL_eq (l : List T) : T.toRVL l = l.map T.toRV := by
  induction l with
  | nil => simp [T.toRVL]
  | cons r rs ih => simp [T.toRVL, ih]
theorem toRVM_eq (l : List (ByteArray × T)) : T.toRVM l = l.map fun p => p.2.toRV := by
  induction l with
  | nil => simp [T.toRVM]
  | cons r rs ih => obtain ⟨k, t⟩ := r; simp [T.toRVM, ih]

end Go.Proofs.YtajeghkjppkhcaaGreat

/-!
  A map keyed by strings, as one block of memory: made, written, looked up, counted, deleted from, ranged over. No program in sight.
-/

namespace Go.Proofs.YtajeghkjppkhcaaGreat
open Go.RowKit Go.MapKept Go.ChangeMaps

/-- block r is a map whose keys are ks, each once; under k lies 'val k' -/
structure MapIs (w : World) (r : Nat) (ks : List ByteArray) (val : ByteArray → Value) : Prop where
  ex : ∃ es clock, w.heap[r]? = some (.map es clock) ∧ Stamped es clock ∧ ks.Nodup ∧
    (∀ e ∈ es.toList, ∃ k, e.key = .string k ∧ k ∈ ks ∧ e.val = val k) ∧ (∀ k ∈ ks, ∃ e ∈ es.toList, e.key = .string k)

section
variable {P : Program} {w w' : World} {r : Nat} {ks : List ByteArray} {val : ByteArray → Value} {t kt et : TypeId}

theorem MapIs.keep (h : MapIs w r ks val) (k : w'.heap[r]? = w.heap[r]?) : MapIs w' r ks val := by
  obtain ⟨es, clock, hb, rest⟩ := h.ex
  exact ⟨es, clock, k.trans hb, rest⟩
theorem MapIs.lt (h : MapIs w r ks val) : r < w.heap.size := by
  obtain ⟨es, clock, hb, _⟩ := h.ex
  exact (Array.getElem?_eq_some_iff.1 hb).1
theorem MapIs.nodup (h : MapIs w r ks val) : ks.Nodup := by
  obtain ⟨es, clock, _, _, h, _⟩ := h.ex
  exact h
theorem MapIs.made (w : World) (val : ByteArray → Value) : MapIs (w.alloc (.map #[] 0)) w.heap.size [] val :=
  ⟨#[], 0, (MapKept.heap_alloc w _).1, stamped_empty 0, by simp, by simp, by simp⟩

theorem isKey_str {es : Array MapEntry} (h : ∀ e ∈ es.toList, ∃ k, e.key = .string k ∧ k ∈ ks ∧ e.val = val k) : ∀ x ∈ es.toList, IsKey .string x.key := by
  intro x hx
  obtain ⟨k, hk, _⟩ := h x hx
  rw [hk]
  trivial
theorem entry_eq_of_keys {es : Array MapEntry} {clock : Nat} (hs : Stamped es clock) {x y : MapEntry} (hx : x ∈ es.toList) (hy : y ∈ es.toList) (h : x.key = y.key) : x = y := by
  have hp := ((stamped_iff es clock).1 hs).2.2
  clear hs
  generalize es.toList = l at hp hx hy
  induction hp with
  | nil => simp at hx
  | cons h1 _ ih =>
    rcases List.mem_cons.1 hx with ex | hx'
    · rcases List.mem_cons.1 hy with ey | hy'
      · rw [ex, ey]
      · subst ex; exact absurd h (h1 y hy')
    · rcases List.mem_cons.1 hy with ey | hy'
      · subst ey; exact absurd h.symm (h1 x hx')
      · exact ih hx' hy'

/-- what a look-up finds -/
theorem find_str {es : Array MapEntry} {clock : Nat} (_hs : Stamped es clock) (h1 : ∀ e ∈ es.toList, ∃ k, e.key = .string k ∧ k ∈ ks ∧ e.val = val k) (h2 : ∀ k ∈ ks, ∃ e ∈ es.toList, e.key = .string k) (k : ByteArray) :
    (k ∈ ks ∧ ∃ j e, Instr.findNow .string (.string k) es.toList 0 = some (some (j, val k)) ∧ es.toList[j]? = some e ∧ e.key = .string k) ∨
    (k ∉ ks ∧ Instr.findNow .string (.string k) es.toList 0 = some none ∧ ∀ x ∈ es.toList, x.key ≠ .string k) := by
  rcases findNow_spec (d := .string) (k := .string k) trivial es.toList 0 (isKey_str h1) with ⟨q1, q2⟩ | ⟨j, e, q1, q2, q3⟩
  · right
    refine ⟨fun hk => ?_, q1, q2⟩
    obtain ⟨e, he, hek⟩ := h2 k hk
    exact q2 e he hek
  · left
    have hem := List.mem_of_getElem? q2
    obtain ⟨k', hk', hm, hv⟩ := h1 e hem
    rw [q3] at hk'
    injection hk' with hk'
    subst hk'
    exact ⟨hm, j, e, by rw [q1, hv]; simp, q2, q3⟩

theorem MapIs.lookup_ok (h : MapIs w r ks val) (ht : P.underlying t = some (.map kt et)) (hk : P.underlying kt = some .string) (k : ByteArray) (hm : k ∈ ks) :
    (Instr.lookup t (.map (some r)) (.string k) true).run P w = .ok (.tuple #[val k, .bool true]) w ∧ (Instr.lookup t (.map (some r)) (.string k) false).run P w = .ok (val k) w := by
  obtain ⟨es, clock, hb, hs, _, h1, h2⟩ := h.ex
  rcases find_str hs h1 h2 k with ⟨_, j, e, q1, _⟩ | ⟨q, _⟩
  · constructor <;> simp [Instr.lookup, run_underlying ht, MapKept.run_getObj_map hb, run_checkKey (d := .string) (k := .string k) hk trivial, run_findKey hk q1, Result.andThen]
  · exact absurd hm q
theorem MapIs.lookup_no (h : MapIs w r ks val) (ht : P.underlying t = some (.map kt et)) (hk : P.underlying kt = some .string) {z : Value} (hz : (zeroValue et).run P w = .ok z w) (k : ByteArray) (hm : k ∉ ks) :
    (Instr.lookup t (.map (some r)) (.string k) true).run P w = .ok (.tuple #[z, .bool false]) w ∧ (Instr.lookup t (.map (some r)) (.string k) false).run P w = .ok z w := by
  obtain ⟨es, clock, hb, hs, _, h1, h2⟩ := h.ex
  rcases find_str hs h1 h2 k with ⟨q, _⟩ | ⟨_, q1, _⟩
  · exact absurd q hm
  · constructor <;> simp [Instr.lookup, run_underlying ht, MapKept.run_getObj_map hb, run_checkKey (d := .string) (k := .string k) hk trivial, run_findKey hk q1, hz, Result.andThen]

theorem setBlock_grown {o : Obj} {es : Array MapEntry} {clock : Nat} (hb : w.heap[r]? = some (.map es clock)) : w.grownBy (setBlock w r o) (some r) :=
  ⟨rfl, rfl, rfl, by simp [setBlock], fun i _ hi => heap_setBlock_other hb _ (fun e => hi (by rw [e]))⟩

theorem MapIs.update (h : MapIs w r ks val) (ht : P.underlying t = some (.map kt et)) (hk : P.underlying kt = some .string) (k : ByteArray) (u : Value) (ks' : List ByteArray) (hn : ks'.Nodup) (hm : ∀ x, x ∈ ks' ↔ x = k ∨ x ∈ ks) :
    ∃ w', (Instr.mapUpdate t (.map (some r)) (.string k) u).run P w = .ok () w' ∧ MapIs w' r ks' (fun x => if x = k then u else val x) ∧ w.grownBy w' (some r) ∧ w'.heap.size = w.heap.size := by
  obtain ⟨es, clock, hb, hs, _, h1, h2⟩ := h.ex
  have hkk : IsKey .string (.string k) := trivial
  rcases find_str hs h1 h2 k with ⟨hin, j, e, q1, q2, q3⟩ | ⟨hout, q1, q2⟩
  · have hj : es[j]? = some e := by simpa using q2
    refine ⟨setBlock w r (.map (es.modify j fun e => { e with key := .string k, val := u }) clock), ?_, ⟨_, _, heap_setBlock_same hb _, ?_, hn, ?_, ?_⟩, setBlock_grown hb, by simp [setBlock]⟩
    · simp [Instr.mapUpdate, run_underlying ht, MapKept.run_getObj_map hb, run_checkKey hk hkk, run_findKey hk q1, hj, q3, run_keyThatStays hkk, MapKept.run_setObj_map _ hb, Result.andThen, setBlock]
    · exact stamped_modify hs _ _ (fun _ _ => rfl) (fun e' _ he' => by rw [hj] at he'; cases he'; exact q3.symm)
    · intro x hx
      obtain ⟨i, hi⟩ := List.getElem?_of_mem hx
      rw [Array.getElem?_toList, Array.getElem?_modify] at hi
      by_cases hij : j = i
      · subst hij
        rw [if_pos rfl, hj] at hi
        simp only [Option.map_some, Option.some.injEq] at hi
        subst hi
        exact ⟨k, rfl, (hm k).2 (.inl rfl), by simp⟩
      · rw [if_neg hij] at hi
        have hxm : x ∈ es.toList := List.mem_of_getElem? (by simpa using hi)
        obtain ⟨k', hk', hin', hv⟩ := h1 x hxm
        have hne : k' ≠ k := by
          rintro rfl
          have hbx := entry_eq_of_keys hs hxm (List.mem_of_getElem? q2) (hk'.trans q3.symm)
          have hst := ((stamped_iff es clock).1 hs).2.1
          subst hbx
          have h3 : (es.toList.map (·.born))[i]? = (es.toList.map (·.born))[j]? := by
            rw [List.getElem?_map, List.getElem?_map, q2]
            have : es.toList[i]? = some x := by simpa using hi
            rw [this]
          have hil : i < (es.toList.map (·.born)).length := by
            have := (Array.getElem?_eq_some_iff.1 hi).1
            simpa using this
          exact hij ((List.getElem?_inj hil hst).1 h3).symm
        exact ⟨k', hk', (hm k').2 (.inr hin'), by rw [hv, if_neg hne]⟩
    · intro x hx
      rcases (hm x).1 hx with rfl | hx
      · refine ⟨{ e with key := .string x, val := u }, ?_, rfl⟩
        refine List.mem_of_getElem? (i := j) ?_
        rw [Array.getElem?_toList, Array.getElem?_modify, if_pos rfl, hj]
        rfl
      · obtain ⟨e', he', hk'⟩ := h2 x hx
        obtain ⟨i, hi⟩ := List.getElem?_of_mem he'
        by_cases hij : j = i
        · subst hij
          rw [q2] at hi
          cases hi
          refine ⟨{ e with key := .string k, val := u }, ?_, by rw [← hk', q3]⟩
          refine List.mem_of_getElem? (i := j) ?_
          rw [Array.getElem?_toList, Array.getElem?_modify, if_pos rfl, hj]
          rfl
        · refine ⟨e', ?_, hk'⟩
          refine List.mem_of_getElem? (i := i) ?_
          rw [Array.getElem?_toList, Array.getElem?_modify, if_neg hij]
          simpa using hi
  · refine ⟨setBlock w r (.map (es.push { key := .string k, val := u, born := clock }) (clock + 1)), ?_, ⟨_, _, heap_setBlock_same hb _, stamped_push hs q2, hn, ?_, ?_⟩, setBlock_grown hb, by simp [setBlock]⟩
    · simp [Instr.mapUpdate, run_underlying ht, MapKept.run_getObj_map hb, run_checkKey hk hkk, run_findKey hk q1, MapKept.run_setObj_map _ hb, Result.andThen, setBlock]
    · intro x hx
      simp only [Array.toList_push, List.mem_append, List.mem_singleton] at hx
      rcases hx with hx | rfl
      · obtain ⟨k', hk', hin', hv⟩ := h1 x hx
        have hne : k' ≠ k := fun e => hout (e ▸ hin')
        exact ⟨k', hk', (hm k').2 (.inr hin'), by rw [hv, if_neg hne]⟩
      · exact ⟨k, rfl, (hm k).2 (.inl rfl), by simp⟩
    · intro x hx
      rcases (hm x).1 hx with rfl | hx
      · exact ⟨_, by simp only [Array.toList_push, List.mem_append, List.mem_singleton]; exact .inr rfl, rfl⟩
      · obtain ⟨e', he', hk'⟩ := h2 x hx
        exact ⟨e', by simp only [Array.toList_push, List.mem_append]; exact .inl he', hk'⟩

/-- how many entries there are -/
theorem MapIs.size (h : MapIs w r ks val) {es : Array MapEntry} {clock : Nat} (hb : w.heap[r]? = some (.map es clock)) : es.size = ks.length := by
  obtain ⟨es', clock', hb', hs, hn, h1, h2⟩ := h.ex
  rw [hb] at hb'
  cases hb'
  have hp : (es.toList.map (·.key)).Perm (ks.map Value.string) := by
    refine (List.perm_ext_iff_of_nodup hs.2.2 ?_).2 fun v => ?_
    · exact List.Pairwise.map _ (fun a b (hab : a ≠ b) e => hab (by injection e)) hn
    · constructor
      · intro hv
        obtain ⟨e, he, rfl⟩ := List.mem_map.1 hv
        obtain ⟨k, hk, hin, _⟩ := h1 e he
        exact List.mem_map.2 ⟨k, hin, hk.symm⟩
      · intro hv
        obtain ⟨k, hk, rfl⟩ := List.mem_map.1 hv
        obtain ⟨e, he, hek⟩ := h2 k hk
        exact List.mem_map.2 ⟨e, he, hek⟩
  have := hp.length_eq
  simpa using this
theorem MapIs.run_len (h : MapIs w r ks val) (ht : P.underlying t = some (.map kt et)) (ty : TypeId) : (Builtin.len_ #[t] ty #[.map (some r)]).run P w = .ok (.int .i64 (ks.length : Int)) w := by
  obtain ⟨es, clock, hb, _⟩ := h.ex
  have := h.size hb
  simp [Builtin.len_, run_underlying ht, MapKept.run_getObj_map hb, this, goInt, Result.andThen]

/-- a range over the map of block r is under way, its iterator in block it; the keys of 'left' are still to come; nothing is laid into the map meanwhile -/
structure MapRange (w : World) (it r : Nat) (ks : List ByteArray) (val : ByteArray → Value) (left : List ByteArray) : Prop where
  ex : ∃ es clock seen c0, w.heap[r]? = some (.map es clock) ∧ Stamped es clock ∧ ks.Nodup ∧
    (∀ e ∈ es.toList, ∃ k, e.key = .string k ∧ k ∈ ks ∧ e.val = val k) ∧ (∀ k ∈ ks, ∃ e ∈ es.toList, e.key = .string k) ∧
    w.heap[it]? = some (.mapIter (some r) clock seen c0) ∧ clock ≤ c0 ∧ left.Nodup ∧ (∀ k ∈ left, k ∈ ks) ∧ (∀ e ∈ es.toList, ∀ k, e.key = .string k → (k ∈ left ↔ seen.contains e.born = false))

theorem MapRange.is_ {it : Nat} {left : List ByteArray} (h : MapRange w it r ks val left) : MapIs w r ks val := by
  obtain ⟨es, clock, seen, c0, hb, hs, hn, h1, h2, _⟩ := h.ex
  exact ⟨es, clock, hb, hs, hn, h1, h2⟩
theorem MapRange.lt {it : Nat} {left : List ByteArray} (h : MapRange w it r ks val left) : it < w.heap.size := by
  obtain ⟨es, clock, seen, c0, _, _, _, _, _, hi, _⟩ := h.ex
  exact (Array.getElem?_eq_some_iff.1 hi).1
theorem MapRange.keep {it : Nat} {left : List ByteArray} (h : MapRange w it r ks val left) (k1 : w'.heap[r]? = w.heap[r]?) (k2 : w'.heap[it]? = w.heap[it]?) : MapRange w' it r ks val left := by
  obtain ⟨es, clock, seen, c0, hb, hs, hn, h1, h2, hi, rest⟩ := h.ex
  exact ⟨es, clock, seen, c0, k1.trans hb, hs, hn, h1, h2, k2.trans hi, rest⟩
theorem MapIs.range (h : MapIs w r ks val) (ht : P.underlying t = some (.map kt et)) :
    (Instr.range t (.map (some r))).run P w = .ok (.pointer (some ⟨w.heap.size, 0, none⟩)) (w.alloc (.mapIter (some r) ((w.heap[r]?).elim 0 fun | .map _ c => c | _ => 0) #[] ((w.heap[r]?).elim 0 fun | .map _ c => c | _ => 0))) ∧
    MapRange (w.alloc (.mapIter (some r) ((w.heap[r]?).elim 0 fun | .map _ c => c | _ => 0) #[] ((w.heap[r]?).elim 0 fun | .map _ c => c | _ => 0))) w.heap.size r ks val ks := by
  obtain ⟨es, clock, hb, hs, hn, h1, h2⟩ := h.ex
  have hlt := h.lt
  simp only [hb, Option.elim_some]
  refine ⟨run_range_map w t kt et r es clock ht hb, ⟨es, clock, #[], clock, ((MapKept.heap_alloc w _).2 r hlt).trans hb, hs, hn, h1, h2, (MapKept.heap_alloc w _).1, Nat.le_refl _, hn, fun k hk => hk, fun e he k hk => ?_⟩⟩
  obtain ⟨k', hk', hin, _⟩ := h1 e he
  rw [hk] at hk'
  injection hk' with hk'
  subst hk'
  simp [hin]
theorem MapRange.next {it : Nat} {left : List ByteArray} (h : MapRange w it r ks val left) (ty : TypeId) :
    (left = [] ∧ (Instr.next (.pointer (some ⟨it, 0, none⟩)) false ty).run P w = .ok (.tuple #[.bool false]) w) ∨
    ∃ k w', k ∈ left ∧ (Instr.next (.pointer (some ⟨it, 0, none⟩)) false ty).run P w = .ok (.tuple #[.bool true, .string k, val k]) w' ∧ MapRange w' it r ks val (left.filter fun x => decide (x ≠ k)) ∧ w.grownBy w' (some it) ∧ w'.heap.size = w.heap.size ∧
      (Instr.entry (.pointer (some ⟨it, 0, none⟩))).run P w' = .ok (.tuple #[.string k, val k]) w' := by
  obtain ⟨es, clock, seen, c0, hb, hs, hn, h1, h2, hi, hc, hln, hls, hl⟩ := h.ex
  have hne : it ≠ r := by rintro rfl; rw [hb] at hi; cases hi
  have hst := (stamped_iff es clock).1 hs
  rcases run_next_at (P := P) w ty it r clock c0 seen es clock hi hb hst.1 hc with ⟨h0, hrun⟩ | ⟨e, he, w1, hal, hrun⟩
  · refine .inl ⟨?_, hrun⟩
    cases left with
    | nil => rfl
    | cons k rest =>
      exfalso
      obtain ⟨e, he, hek⟩ := h2 k (hls k (by simp))
      have hs' := (hl e he k hek).1 (by simp)
      have hmem : e ∈ (leftOf es seen).toList := by
        simp only [leftOf, Array.toList_filter, List.mem_filter]
        exact ⟨he, by rw [hs']; rfl⟩
      have : (leftOf es seen).toList.length = 0 := by simpa using h0
      rw [List.length_eq_zero_iff] at this
      rw [this] at hmem
      cases hmem
  · have hem : e ∈ es.toList ∧ seen.contains e.born = false := by
      simp only [leftOf, Array.toList_filter, List.mem_filter, Bool.not_eq_true'] at he
      exact he
    obtain ⟨k, hk, hin, hv⟩ := h1 e hem.1
    have hleft : k ∈ left := (hl e hem.1 k hk).2 hem.2
    have hr1 : w1.heap[it]? = some (.mapIter (some r) clock seen c0) := by rcases hal with rfl | rfl <;> exact hi
    have hb1 : w1.heap[r]? = some (.map es clock) := by rcases hal with rfl | rfl <;> exact hb
    have hset := heap_set (o' := .mapIter (some r) clock (seen.push e.born) clock) hr1
    have hb' : (setBlock w1 it (.mapIter (some r) clock (seen.push e.born) clock)).heap[r]? = some (.map es clock) := (hset.2 r (fun e1 => hne e1.symm)).trans hb1
    rw [hk, hv] at hrun
    refine .inr ⟨k, _, hleft, hrun, ⟨es, clock, seen.push e.born, clock, hb', hs, hn, h1, h2, hset.1, Nat.le_refl _, hln.filter _, fun x hx => hls x (List.mem_filter.1 hx).1, fun e' he' k' hk' => ?_⟩, ?_, ?_, ?_⟩
    · rw [List.mem_filter, hl e' he' k' hk']
      simp only [Array.contains_push, Bool.or_eq_false_iff, beq_eq_false_iff_ne, ne_eq, decide_eq_true_eq]
      constructor
      · rintro ⟨q2, q1⟩
        refine ⟨q2, fun e1 => q1 ?_⟩
        have hst2 := hst.2.1
        have : e' = e := by
          obtain ⟨i, hi'⟩ := List.getElem?_of_mem he'
          obtain ⟨j, hj'⟩ := List.getElem?_of_mem hem.1
          have h3 : (es.toList.map (·.born))[i]? = (es.toList.map (·.born))[j]? := by rw [List.getElem?_map, List.getElem?_map, hi', hj']; simp [e1]
          have := (List.getElem?_inj (by have := (List.getElem?_eq_some_iff.1 hi').1; simpa using this) hst2).1 h3
          subst this
          rw [hi'] at hj'
          exact Option.some.inj hj'
        subst this
        rw [hk] at hk'
        injection hk' with hk'
        exact hk'.symm
      · rintro ⟨q1, q2⟩
        refine ⟨q1, fun e1 => q2 ?_⟩
        subst e1
        rw [entry_eq_of_keys hs he' hem.1 (hk'.trans hk.symm)]
    · rcases hal with rfl | rfl <;> exact ⟨rfl, rfl, rfl, by simp [setBlock], fun i _ hi => hset.2 i (fun e1 => hi (by rw [e1]))⟩
    · rcases hal with rfl | rfl <;> simp [setBlock]
    · have := run_entry_at (P := P) (setBlock w1 it (.mapIter (some r) clock (seen.push e.born) clock)) it r clock seen es clock e hset.1 hb' hem.1 hst.2.1
      rw [hk, hv] at this
      exact this
end

/-! at an operation of the walk -/
section
variable {P : Program} (w : World) {ops : Array Oper} {rest : List Oper} {o : Oper} {a : Act} {Q : Exit → Act → World → Prop}

theorem wpList_update_is (hg : o.guard = none) (m x v : Operand) (t : TypeId) (hop : o.op = Op.mapUpdate t m x v) (kt et : TypeId) (ht : P.underlying t = some (.map kt et)) (hk : P.underlying kt = some .string)
    (r : Nat) (ks : List ByteArray) (val : ByteArray → Value) (hm : a.eval m = .map (some r)) (h : MapIs w r ks val) (k : ByteArray) (u : Value) (hx : a.eval x = .string k) (hv : a.eval v = u) (ks' : List ByteArray) (hn : ks'.Nodup) (hmem : ∀ x, x ∈ ks' ↔ x = k ∨ x ∈ ks)
    (hK : ∀ w', MapIs w' r ks' (fun x => if x = k then u else val x) → w.grownBy w' (some r) → w'.heap.size = w.heap.size → wpList P ops Q rest (a.put o.dst undef) w') :
    wpList P ops Q (o :: rest) a w := by
  refine wpList_plain hg fun K' hK' => ?_
  obtain ⟨w', hrun, r1, r2, r3⟩ := h.update (P := P) ht hk k u ks' hn hmem
  unfold Oper.wp
  simp [execOp, hop, hm, hx, hv, hrun, Result.andThen]
  exact hK' _ _ (hK w' r1 r2 r3)
end

end Go.Proofs.YtajeghkjppkhcaaGreat

/-!
  What lies in memory: rows of cells, the thin package's values, the package's own trees; that each is kept where the blocks that it lies in are kept.
-/

namespace Go.Proofs.YtajeghkjppkhcaaGreat
open Go.RowKit

theorem hide {p : Prop} (h : p) : Hid p := h

/-- a float stored into a cell: as every value of one cell -/
theorem run_store_float (P : Program) (w : World) (a : Addr) (m : Mode) (k : FloatKind) (b : Nat) : (store a (.float k b) m).run P w = stored P w a (.float k b) m := run_store P w a _ m rfl

def R47 : Nat := 140737488351232
def B64 : Nat := 18446744073709551616
def okInt (n : Int) : Prop := -9223372036854775808 ≤ n ∧ n ≤ 9223372036854775807

/-- the blocks of F are in w' as in w -/
def Keeps (F : Nat → Prop) (w w' : World) : Prop := ∀ b, F b → w'.heap[b]? = w.heap[b]?

theorem Keeps.refl (F : Nat → Prop) (w : World) : Keeps F w w := fun _ _ => rfl
theorem Keeps.trans {F : Nat → Prop} {a b c : World} (h : Keeps F a b) (k : Keeps F b c) : Keeps F a c := fun x hx => (k x hx).trans (h x hx)
theorem Keeps.mono {F G : Nat → Prop} {a b : World} (h : Keeps G a b) (hg : ∀ x, F x → G x) : Keeps F a b := fun x hx => h x (hg x hx)
theorem Keeps.below {F : Nat → Prop} {B : Nat} {a b : World} (h : Below B a b) (hF : ∀ x, F x → x < B) : Keeps F a b := fun x hx => h.block x (hF x hx)
theorem Keeps.grown {F : Nat → Prop} {row : Option Nat} {a b : World} (h : a.grownBy b row) (hF : ∀ x, F x → x < a.heap.size ∧ some x ≠ row) : Keeps F a b :=
  fun x hx => h.block x (hF x hx).1 (hF x hx).2
theorem Keeps.alloc {F : Nat → Prop} (w : World) (o : Obj) (hF : ∀ x, F x → x < w.heap.size) : Keeps F w (w.alloc o) := fun x hx => Below.heap_alloc w o x (hF x hx)
theorem Keeps.setCell {F : Nat → Prop} (w : World) (a : Addr) (u : Value) (hF : ∀ x, F x → x ≠ a.block) : Keeps F w (w.setCell a u) := fun x hx => Below.heap_setCell w a u x (hF x hx)

theorem bcell {W w1 : World} {B : Nat} (hb : Below B W w1) : (∀ b o, b < B → w1.cell? ⟨b, o, none⟩ = W.cell? ⟨b, o, none⟩) ∧ (∀ b o, b < B → w1.frozen? ⟨b, o, none⟩ = W.frozen? ⟨b, o, none⟩) :=
  ⟨fun b o h => hb.cell (p := ⟨b, o, none⟩) h, fun b o h => hb.frozen (p := ⟨b, o, none⟩) h⟩
theorem gcell {W w1 : World} {row : Option Nat} (hb : W.grownBy w1 row) : (∀ b o, b < W.heap.size → some b ≠ row → w1.cell? ⟨b, o, none⟩ = W.cell? ⟨b, o, none⟩) ∧ (∀ b o, b < W.heap.size → some b ≠ row → w1.frozen? ⟨b, o, none⟩ = W.frozen? ⟨b, o, none⟩) :=
  ⟨fun b o h h' => hb.cell_far ⟨b, o, none⟩ h h', fun b o h h' => hb.frozen_far ⟨b, o, none⟩ h h'⟩

/-- n elements of 'size' cells lie where A leads, in blocks of F -/
def Row (F : Nat → Prop) (w : World) (size : Nat) (A : Option Addr) (n : Nat) (xs : List Value) : Prop :=
  xs.length = n * size ∧ (0 < n → ∃ b o, A = some ⟨b, o, none⟩ ∧ F b ∧ ∀ j u, xs[j]? = some u → w.cell? ⟨b, o + j, none⟩ = some u)

section
variable {F G : Nat → Prop} {w w' : World} {size n : Nat} {A : Option Addr} {xs : List Value}
theorem Row.keeps (h : Row F w size A n xs) (k : Keeps F w w') : Row F w' size A n xs :=
  ⟨h.1, fun hn => by
    obtain ⟨b, o, e, hF, hc⟩ := h.2 hn
    exact ⟨b, o, e, hF, fun j u hu => (World.cell?_of_block (a := ⟨b, o + j, none⟩) (k b hF)).trans (hc j u hu)⟩⟩
theorem Row.mono (h : Row F w size A n xs) (k : ∀ b, F b → G b) : Row G w size A n xs :=
  ⟨h.1, fun hn => by
    obtain ⟨b, o, e, hF, hc⟩ := h.2 hn
    exact ⟨b, o, e, k b hF, hc⟩⟩
theorem Row.take {m : Nat} (h : Row F w size A n xs) (hm : m ≤ n) : Row F w size A m (xs.take (m * size)) := by
  refine ⟨?_, fun hn => ?_⟩
  · rw [List.length_take, h.1]
    exact Nat.min_eq_left (Nat.mul_le_mul_right _ hm)
  · obtain ⟨b, o, e, hF, hc⟩ := h.2 (by omega)
    refine ⟨b, o, e, hF, fun j u hu => hc j u ?_⟩
    rw [List.getElem?_take] at hu
    split at hu
    · exact hu
    · cases hu
theorem Row.drop {m c : Nat} (h : Row F w size A n xs) (hm : m ≤ n) (hc : n ≤ c) : Row F w size (if c = m then A else A.map (·.add (m * size))) (n - m) (xs.drop (m * size)) := by
  refine ⟨by rw [List.length_drop, h.1, Nat.sub_mul], fun hn => ?_⟩
  obtain ⟨b, o, rfl, hF, hcell⟩ := h.2 (by omega)
  rw [if_neg (by omega)]
  refine ⟨b, o + m * size, ?_, hF, fun j u hu => ?_⟩
  · simp only [Option.map_some, Addr.add]
    split
    · rename_i h0; rw [h0]; rfl
    · rfl
  · rw [List.getElem?_drop] at hu
    rw [Nat.add_assoc]
    exact hcell _ u hu
theorem Row.nil_ : Row F w size A 0 [] := ⟨by simp, fun h => absurd h (by omega)⟩
theorem Row.of_own {base : Nat} {e : TypeId} {c : Nat} (h : w.ownsRow base e size (.slice A n c) n xs) (hF : ∀ g, (Value.slice A n c).ownBlock = some g → F g) : Row F w size A n xs := by
  refine ⟨h.1, fun hn => ?_⟩
  obtain ⟨g, cap, hv, _, _⟩ := h.form hn
  have hA : A = some ⟨g, 0, none⟩ := by injection hv
  subst hA
  refine ⟨g, 0, rfl, hF g rfl, fun j u hu => ?_⟩
  have := h.cells (g := g) rfl j u hu
  unfold Addr.add at this
  split at this
  · rename_i h0; subst h0; simpa using this
  · simpa using this
end

/-- A value of the thin package, as the six cells of its struct. -/
inductive RVAt (F : Nat → Prop) (w : World) : RV → List Value → Prop
  | mk {kind n : Int} {f : Nat} {s : ByteArray} {keys : List ByteArray} {l : List RV} {KA LA : Option Addr} {kc lc : Nat} {xs : List Value} :
    okInt kind → okInt n → f < B64 → s.size ≤ R47 → (∀ k ∈ keys, k.size ≤ R47) → keys.length * 16 ≤ R47 → l.length * 88 ≤ R47 → keys.length ≤ kc → kc ≤ maxLen → l.length ≤ lc → lc ≤ maxLen →
    Row F w 1 KA keys.length (keys.map Value.string) → Row F w 6 LA l.length xs → (∀ i r, l[i]? = some r → RVAt F w r ((xs.drop (i * 6)).take 6)) →
    RVAt F w (.mk kind n f s keys l) [.int .i64 kind, .int .i64 n, .float .f64 f, .string s, .slice KA keys.length kc, .slice LA l.length lc]

section
variable {F G : Nat → Prop} {w w' : World}
theorem RVAt.keeps {r : RV} {cs : List Value} (h : RVAt F w r cs) (k : Keeps F w w') : RVAt F w' r cs := by
  induction h with
  | mk h1 h2 h3 h4 h5 h6 h7 h8 h9 h10 h11 h12 h13 _ ih => exact .mk h1 h2 h3 h4 h5 h6 h7 h8 h9 h10 h11 (h12.keeps k) (h13.keeps k) ih
theorem RVAt.mono {r : RV} {cs : List Value} (h : RVAt F w r cs) (k : ∀ b, F b → G b) : RVAt G w r cs := by
  induction h with
  | mk h1 h2 h3 h4 h5 h6 h7 h8 h9 h10 h11 h12 h13 _ ih => exact .mk h1 h2 h3 h4 h5 h6 h7 h8 h9 h10 h11 (h12.mono k) (h13.mono k) ih
end

/-- A tree of the package, as an interface value. -/
inductive AnyAt (F : Nat → Prop) (w : World) : T → Value → Prop
  | null : AnyAt F w .null .nilIface
  | bool (b : Bool) : AnyAt F w (.bool b) (.iface 4 (.bool b))
  | int {n : Int} : okInt n → AnyAt F w (.int n) (.iface 2 (.int .i64 n))
  | flt {f : Nat} : f < B64 → AnyAt F w (.flt f) (.iface 29 (.float .f64 f))
  | str {s : ByteArray} : s.size ≤ R47 → AnyAt F w (.str s) (.iface 9 (.string s))
  | list {l : List T} {A : Option Addr} {c : Nat} {xs : List Value} : l.length * 88 ≤ R47 → l.length ≤ c → c ≤ maxLen → Row F w 1 A l.length xs →
    (∀ (i : Nat) t u, l[i]? = some t → xs[i]? = some u → AnyAt F w t u) → AnyAt F w (.list l) (.iface 254 (.slice A l.length c))
  | map {l : List (ByteArray × T)} {r : Nat} {val : ByteArray → Value} : l.length * 88 ≤ R47 → (∀ p ∈ l, p.1.size ≤ R47) → Sorted l → F r → MapIs w r (l.map Prod.fst) val →
    (∀ k t, (k, t) ∈ l → AnyAt F w t (val k)) → AnyAt F w (.map l) (.iface 255 (.map (some r)))

section
variable {F G : Nat → Prop} {w w' : World}
theorem AnyAt.keeps {t : T} {u : Value} (h : AnyAt F w t u) (k : Keeps F w w') : AnyAt F w' t u := by
  induction h with
  | null => exact .null
  | bool b => exact .bool b
  | int h => exact .int h
  | flt h => exact .flt h
  | str h => exact .str h
  | list h1 h2 h3 h4 _ ih => exact .list h1 h2 h3 (h4.keeps k) ih
  | map h1 h2 h3 h4 h5 _ ih => exact .map h1 h2 h3 h4 (h5.keep (k _ h4)) ih
theorem AnyAt.mono {t : T} {u : Value} (h : AnyAt F w t u) (k : ∀ b, F b → G b) : AnyAt G w t u := by
  induction h with
  | null => exact .null
  | bool b => exact .bool b
  | int h => exact .int h
  | flt h => exact .flt h
  | str h => exact .str h
  | list h1 h2 h3 h4 _ ih => exact .list h1 h2 h3 (h4.mono k) ih
  | map h1 h2 h3 h4 h5 _ ih => exact .map h1 h2 h3 (k _ h4) h5 ih
end

/-- the structs of the values rs, six cells each -/
def RVs (F : Nat → Prop) (w : World) (rs : List RV) (xs : List Value) : Prop := xs.length = rs.length * 6 ∧ ∀ (i : Nat) r, rs[i]? = some r → RVAt F w r ((xs.drop (i * 6)).take 6)
section
variable {F G : Nat → Prop} {w w' : World}
theorem RVAt.len {r : RV} {cs : List Value} (h : RVAt F w r cs) : cs.length = 6 := by cases h; rfl
theorem RVs.keeps {rs : List RV} {xs : List Value} (h : RVs F w rs xs) (k : Keeps F w w') : RVs F w' rs xs := ⟨h.1, fun i r hr => (h.2 i r hr).keeps k⟩
theorem RVs.mono {rs : List RV} {xs : List Value} (h : RVs F w rs xs) (k : ∀ b, F b → G b) : RVs G w rs xs := ⟨h.1, fun i r hr => (h.2 i r hr).mono k⟩
theorem RVs.nil_ : RVs F w [] [] := ⟨rfl, by simp⟩
theorem RVs.one {r : RV} {cs : List Value} (h : RVAt F w r cs) : RVs F w [r] cs := by
  have hl := h.len
  refine ⟨by simp [hl], fun i r' hr => ?_⟩
  cases i with
  | zero =>
    simp at hr
    subst hr
    rw [Nat.zero_mul, List.drop_zero, List.take_of_length_le (by omega)]
    exact h
  | succ i => simp at hr
theorem RVs.append {rs rs' : List RV} {xs xs' : List Value} (h : RVs F w rs xs) (h' : RVs F w rs' xs') : RVs F w (rs ++ rs') (xs ++ xs') := by
  have l1 := h.1
  have l2 := h'.1
  refine ⟨by simp only [List.length_append]; omega, fun i r hr => ?_⟩
  by_cases hi : i < rs.length
  · rw [List.getElem?_append_left hi] at hr
    have := h.2 i r hr
    rw [List.drop_append_of_le_length (by omega), List.take_append_of_le_length (by simp only [List.length_drop]; omega)]
    exact this
  · rw [List.getElem?_append_right (by omega)] at hr
    have := h'.2 _ r hr
    have e : i * 6 = xs.length + (i - rs.length) * 6 := by omega
    rw [e, List.drop_length_add_append]
    exact this
theorem RVs.take {rs : List RV} {xs : List Value} (h : RVs F w rs xs) (m : Nat) (hm : m ≤ rs.length) : RVs F w (rs.take m) (xs.take (m * 6)) := by
  have l1 := h.1
  refine ⟨by simp only [List.length_take]; omega, fun i r hr => ?_⟩
  have hi : i < m := by
    have := (List.getElem?_eq_some_iff.1 hr).1
    simp only [List.length_take] at this
    omega
  rw [List.getElem?_take, if_pos hi] at hr
  have := h.2 i r hr
  rw [List.drop_take, List.take_take, Nat.min_eq_left (by omega)]
  exact this
theorem RVs.drop {rs : List RV} {xs : List Value} (h : RVs F w rs xs) (m : Nat) : RVs F w (rs.drop m) (xs.drop (m * 6)) := by
  have l1 := h.1
  refine ⟨by simp only [List.length_drop]; omega, fun i r hr => ?_⟩
  rw [List.getElem?_drop] at hr
  have := h.2 _ r hr
  rw [List.drop_drop]
  have e : m * 6 + i * 6 = (m + i) * 6 := by omega
  rw [e]
  exact this
theorem RVs.ones {rs : List RV} {xs : List Value} (h : RVs F w rs xs) : ∀ u ∈ xs, u.oneCell' = true := by
  intro u hu
  obtain ⟨j, hj⟩ := List.getElem?_of_mem hu
  have hjl := (List.getElem?_eq_some_iff.1 hj).1
  have l1 := h.1
  have hi : j / 6 < rs.length := by omega
  have hr := h.2 (j / 6) rs[j / 6] (List.getElem?_eq_getElem hi)
  have hu' : ((xs.drop (j / 6 * 6)).take 6)[j % 6]? = some u := by
    rw [List.getElem?_take, if_pos (by omega), List.getElem?_drop]
    have : j / 6 * 6 + j % 6 = j := by omega
    rw [this]
    exact hj
  have hm := List.mem_of_getElem? hu'
  generalize (xs.drop (j / 6 * 6)).take 6 = cs at hr hm
  generalize rs[j / 6] = r at hr
  cases hr
  simp only [List.mem_cons, List.not_mem_nil, or_false] at hm
  rcases hm with rfl | rfl | rfl | rfl | rfl | rfl <;> rfl
end

/-! new memory -/
/-- the blocks from B on -/
def Fr (B : Nat) (w : World) : Nat → Prop := fun b => B ≤ b ∧ b < w.heap.size
/-- the blocks from B on but for v's own -/
def FrX (B : Nat) (w : World) (v : Value) : Nat → Prop := fun b => B ≤ b ∧ b < w.heap.size ∧ some b ≠ v.ownBlock
/-- all blocks -/
def Old (w : World) : Nat → Prop := fun b => b < w.heap.size

theorem ownsRow_below {w w' : World} {B base : Nat} {e : TypeId} {size n : Nat} {v : Value} {xs : List Value} (h : w.ownsRow base e size v n xs) (hb : Below B w w') (hB : w.heap.size ≤ B) : w'.ownsRow base e size v n xs := by
  obtain ⟨h1, h2⟩ := h
  refine ⟨h1, ?_⟩
  rcases h2 with h2 | ⟨g, cap, cur, hv, hg, hh, r⟩
  · exact Or.inl h2
  · have hlt : g < w.heap.size := (Array.getElem?_eq_some_iff.1 hh).1
    exact Or.inr ⟨g, cap, cur, hv, hg, (hb.block g (by omega)).trans hh, r⟩
/-- the six cells of an element of a row of structs of six cells -/
theorem row6_at {F : Nat → Prop} {w : World} {A : Option Addr} {n k : Nat} {xs : List Value} {c0 c1 c2 c3 c4 c5 : Value} (h : Row F w 6 A n xs) (hk : k < n) (hcs : (xs.drop (k * 6)).take 6 = [c0, c1, c2, c3, c4, c5]) :
    ∃ b o, A = some ⟨b, o, none⟩ ∧ F b ∧ w.cell? ⟨b, o + k * 6, none⟩ = some c0 ∧ w.cell? ⟨b, o + k * 6 + 1, none⟩ = some c1 ∧ w.cell? ⟨b, o + k * 6 + 2, none⟩ = some c2 ∧
      w.cell? ⟨b, o + k * 6 + 3, none⟩ = some c3 ∧ w.cell? ⟨b, o + k * 6 + 4, none⟩ = some c4 ∧ w.cell? ⟨b, o + k * 6 + 5, none⟩ = some c5 := by
  obtain ⟨b, o, e, hF, hc⟩ := h.2 (by omega)
  have g : ∀ j u, j < 6 → [c0, c1, c2, c3, c4, c5][j]? = some u → w.cell? ⟨b, o + k * 6 + j, none⟩ = some u := by
    intro j u hj hu
    rw [← hcs, List.getElem?_take, if_pos hj, List.getElem?_drop] at hu
    rw [Nat.add_assoc]
    exact hc _ _ hu
  exact ⟨b, o, e, hF, g 0 _ (by omega) rfl, g 1 _ (by omega) rfl, g 2 _ (by omega) rfl, g 3 _ (by omega) rfl, g 4 _ (by omega) rfl, g 5 _ (by omega) rfl⟩
theorem row1_at {F : Nat → Prop} {w : World} {A : Option Addr} {n k : Nat} {xs : List Value} {u : Value} (h : Row F w 1 A n xs) (hk : k < n) (hu : xs[k]? = some u) :
    ∃ b o, A = some ⟨b, o, none⟩ ∧ F b ∧ w.cell? ⟨b, o + k, none⟩ = some u := by
  obtain ⟨b, o, e, hF, hc⟩ := h.2 (by omega)
  exact ⟨b, o, e, hF, hc _ _ hu⟩

/-- the values us stand for the trees ts -/
def AnysAt (F : Nat → Prop) (w : World) (ts : List T) (us : List Value) : Prop := ∀ (i : Nat) t u, ts[i]? = some t → us[i]? = some u → AnyAt F w t u
theorem AnysAt.keeps {F G : Nat → Prop} {w w' : World} {ts : List T} {us : List Value} (h : AnysAt F w ts us) (k : Keeps F w w') (g : ∀ b, F b → G b) : AnysAt G w' ts us :=
  fun i t u ht hu => ((h i t u ht hu).keeps k).mono g
theorem AnysAt.snoc {F : Nat → Prop} {w : World} {ts : List T} {us : List Value} {t : T} {u : Value} (h : AnysAt F w ts us) (hl : us.length = ts.length) (hu : AnyAt F w t u) : AnysAt F w (ts ++ [t]) (us ++ [u]) := by
  intro i t' u' ht hu'
  rcases Nat.lt_trichotomy i ts.length with hi | hi | hi
  · rw [List.getElem?_append_left hi] at ht
    rw [List.getElem?_append_left (by omega)] at hu'
    exact h i t' u' ht hu'
  · rw [List.getElem?_append_right (by omega)] at ht hu'
    simp [hi, hl] at ht hu'
    subst ht; subst hu'
    exact hu
  · rw [List.getElem?_append_right (by omega)] at ht
    rw [List.getElem?_eq_none (by simp; omega)] at ht
    cases ht

/-- an interface value lies in one cell: as the walk reads it -/
theorem AnyAt.one {F : Nat → Prop} {w : World} {t : T} {u : Value} (h : AnyAt F w t u) : u.cells = #[u] ∧ u.oneCell' = true := by cases h <;> exact ⟨rfl, rfl⟩

/-- a call that makes an interface value for the tree t -/
def GivesAny (t : T) (w : World) (e : Ending) (w' : World) : Prop := ∃ u, e = .returned u ∧ AnyAt (Fr w.heap.size w') w' t u ∧ Below w.heap.size w w'

end Go.Proofs.YtajeghkjppkhcaaGreat

/-!
  append of a row that lies somewhere (a nil one too) onto a row of the call's own; blocks that are known whole.
-/

namespace Go.Proofs.YtajeghkjppkhcaaGreat
open Go.RowKit

/-- block g is just these cells, none of them frozen -/
def Bk (w : World) (g : Nat) (t : TypeId) (cs : Array Value) : Prop := w.heap[g]? = some (.cells cs t (0, 0))
section
variable {w w' : World} {g : Nat} {t : TypeId} {cs : Array Value}
theorem Bk.lt (h : Bk w g t cs) : g < w.heap.size := (Array.getElem?_eq_some_iff.1 h).1
theorem Bk.cell (h : Bk w g t cs) (i : Nat) : w.cell? ⟨g, i, none⟩ = cs[i]? := cell_of_row w g i cs t (0, 0) h
theorem Bk.free (h : Bk w g t cs) (i : Nat) : w.frozen? ⟨g, i, none⟩ = false := by unfold Bk at h; simp [World.frozen?, h]
theorem Bk.new (w : World) (t : TypeId) (cs : Array Value) : Bk (w.alloc (.cells cs t)) w.heap.size t cs := heap_alloc_new w _
theorem Bk.alloc (h : Bk w g t cs) (o : Obj) : Bk (w.alloc o) g t cs := (Below.heap_alloc w o g h.lt).trans h
theorem Bk.drewN (h : Bk w g t cs) (n : Nat) : Bk (w.drewN n) g t cs := h
theorem Bk.drew (h : Bk w g t cs) : Bk w.drew g t cs := h
theorem Bk.below {B : Nat} (h : Bk w g t cs) (hb : Below B w w') (hg : g < B) : Bk w' g t cs := (hb.block g hg).trans h
theorem Bk.grown {row : Option Nat} (h : Bk w g t cs) (hb : w.grownBy w' row) (hg : some g ≠ row) : Bk w' g t cs := (hb.block g h.lt hg).trans h
theorem Bk.set_ (h : Bk w g t cs) (i : Nat) (u : Value) : Bk (w.setCell ⟨g, i, none⟩ u) g t (cs.setIfInBounds i u) := by
  unfold Bk at h ⊢
  simp [World.setCell, Array.getElem?_modify, h]
theorem Bk.far (h : Bk w g t cs) {p : Addr} (hp : g ≠ p.block) (u : Value) : Bk (w.setCell p u) g t cs := (Below.heap_setCell w p u g hp).trans h
theorem Bk.ne_ {g' : Nat} {t' : TypeId} {cs' : Array Value} (h : Bk w g t cs) (h' : Bk w g' t' cs') (hne : t ≠ t') : g ≠ g' := by
  rintro rfl
  unfold Bk at h h'
  rw [h] at h'
  injection h' with h'
  injection h' with _ ht
  exact hne ht
theorem own_ne {base : Nat} {e : TypeId} {size n : Nat} {v : Value} {xs : List Value} (h : w.ownsRow base e size v n xs) (hg : Bk w g t cs) (hne : e ≠ t) : some g ≠ v.ownBlock := by
  rcases h.2 with ⟨rfl, _⟩ | ⟨g', cap, cur, rfl, _, hh, _⟩
  · simp [Value.ownBlock]
  · intro he
    have e1 : g = g' := by simpa [Value.ownBlock] using he
    subst e1
    exact Bk.ne_ (t := e) hh hg hne rfl
theorem own_form {base : Nat} {e : TypeId} {size n : Nat} {v : Value} {xs : List Value} (h : w.ownsRow base e size v n xs) : ∃ A c, v = .slice A n c ∧ n ≤ c ∧ c ≤ maxLen := by
  rcases h.2 with ⟨e, h0⟩ | ⟨g, cap, cur, e, _, _, h3, h4, _⟩
  · exact ⟨none, 0, by rw [e, h0], by omega, by unfold maxLen; omega⟩
  · exact ⟨_, cap, e, h3, h4⟩
end

/-- the cells of a block that was just laid -/
theorem cells_at (w : World) (cs : List Value) (t : TypeId) (n : Nat) (h : w.heap.size = n) : ∀ (j : Nat) u, cs[j]? = some u → (w.alloc (.cells cs.toArray t)).cell? ((⟨n, 0, none⟩ : Addr).add j) = some u := by
  subst h
  intro j u hu
  have := (Bk.new w t cs.toArray).cell j
  unfold Addr.add
  split
  · rename_i h0
    subst h0
    rw [this]
    simpa using hu
  · rw [Nat.zero_add, this]
    simpa using hu

section
variable {P : Program} (w : World)
theorem run_append_row (base : Nat) (t ty e : TypeId) (i : TypeInfo) (z : Value) (size bytes : Nat) (ht : P.underlying t = some (.slice e)) (hi : P.info? e = some i) (hz : i.zero = some z)
    (hsize : i.size = size) (hby : i.bytes = bytes) (hzs : z.cells.size = size) (hsz : 0 < size)
    (v : Value) (n : Nat) (xs : List Value) (hown : w.ownsRow base e size v n xs)
    (F : Nat → Prop) (A : Option Addr) (m c : Nat) (news : List Value) (hr : Row F w size A m news) (h1 : ∀ u ∈ news, u.oneCell' = true)
    (hbytes : (n + m) * bytes ≤ 140737488355328) (hb1 : 0 < bytes) (hbase : base ≤ w.heap.size) :
    ∃ v' w', (Builtin.append_ #[t, t] ty #[v, .slice A m c]).run P w = .ok v' w' ∧ w'.ownsRow base e size v' (n + m) (xs ++ news) ∧ w.grownBy w' v.ownBlock ∧ (v'.ownBlock = v.ownBlock ∨ v'.ownBlock = some w.heap.size) := by
  have h63 : n + m ≤ maxLen := by
    have : n + m ≤ (n + m) * bytes := Nat.le_mul_of_pos_right _ hb1
    unfold maxLen
    omega
  by_cases h0 : m = 0
  · subst h0
    have hn : news = [] := List.eq_nil_of_length_eq_zero (by simpa using hr.1)
    subst hn
    cases A with
    | some a =>
      obtain ⟨v', w', q1, q2, q3, _, q5⟩ := run_append_own_at (P := P) w base t ty e i z size bytes ht hi hz hsize hby hzs hsz v n xs hown a 0 c [] (by simp) (by simp) (by simp) h63 hbytes hbase
      exact ⟨v', w', q1, q2, q3, q5⟩
    | none =>
      refine ⟨v, w, ?_, by simpa using hown, World.grownBy.refl w _, .inl rfl⟩
      rcases hown.2 with ⟨rfl, rfl⟩ | ⟨g, cap, cur, rfl, _, _, hnc, _⟩
      · simp [Builtin.append_, run_underlying ht, sizeOf, typeInfo, hi, Builtin.lenOf, Builtin.firstCells]
      · simp [Builtin.append_, run_underlying ht, sizeOf, typeInfo, hi, Builtin.lenOf, Builtin.firstCells, hnc, storeCells]
  · obtain ⟨b, o, rfl, _, hc⟩ := hr.2 (by omega)
    obtain ⟨v', w', q1, q2, q3, _, q5⟩ := run_append_own_at (P := P) w base t ty e i z size bytes ht hi hz hsize hby hzs hsz v n xs hown ⟨b, o, none⟩ m c news hr.1 (fun j u hu => by
      have := hc j u hu
      unfold Addr.add
      split
      · rename_i h; subst h; simpa using this
      · exact this) h1 h63 hbytes hbase
    exact ⟨v', w', q1, q2, q3, q5⟩

theorem wp_append_row {o : Oper} {a : Act} {K : Act → World → Prop} {Q : Exit → Act → World → Prop} (s x : Operand) (t : TypeId)
    (ho : o.op = .call { callee := .builtin .append, args := #[s, x], argTypes := #[t, t] })
    (base : Nat) (e : TypeId) (i : TypeInfo) (z : Value) (size bytes : Nat) (ht : P.underlying t = some (.slice e)) (hi : P.info? e = some i) (hz : i.zero = some z)
    (hsize : i.size = size) (hby : i.bytes = bytes) (hzs : z.cells.size = size) (hsz : 0 < size)
    (v : Value) (n : Nat) (xs : List Value) (hs : a.eval s = v) (hown : w.ownsRow base e size v n xs)
    (F : Nat → Prop) (A : Option Addr) (m c : Nat) (news : List Value) (hx : a.eval x = .slice A m c) (hr : Row F w size A m news) (h1 : ∀ u ∈ news, u.oneCell' = true)
    (hbytes : (n + m) * bytes ≤ 140737488355328) (hb1 : 0 < bytes) (hbase : base ≤ w.heap.size)
    (h : ∀ v' w', w'.ownsRow base e size v' (n + m) (xs ++ news) → w.grownBy w' v.ownBlock → (v'.ownBlock = v.ownBlock ∨ v'.ownBlock = some w.heap.size) → K (a.put o.dst v') w') : o.wp P a w K Q := by
  obtain ⟨v', w', hrun, h2, h3, h4⟩ := run_append_row (P := P) w base t o.type e i z size bytes ht hi hz hsize hby hzs hsz v n xs hown F A m c news hr h1 hbytes hb1 hbase
  unfold Oper.wp execOp
  simp only [ho, resolve, invoke, builtin, Sem.run_bind, Sem.run_pure, Result.andThen_ok, List.map_toArray, List.map_cons, List.map_nil, hs, hx, hrun]
  exact h v' w' h2 h3 h4

theorem wpList_append_row {ops : Array Oper} {rest : List Oper} {o : Oper} {a : Act} {Q : Exit → Act → World → Prop} (hgd : o.guard = none) (s x : Operand) (t : TypeId)
    (ho : o.op = .call { callee := .builtin .append, args := #[s, x], argTypes := #[t, t] })
    (base : Nat) (e : TypeId) (i : TypeInfo) (z : Value) (size bytes : Nat) (ht : P.underlying t = some (.slice e)) (hi : P.info? e = some i) (hz : i.zero = some z)
    (hsize : i.size = size) (hby : i.bytes = bytes) (hzs : z.cells.size = size) (hsz : 0 < size)
    (v : Value) (n : Nat) (xs : List Value) (hs : a.eval s = v) (hown : w.ownsRow base e size v n xs)
    (F : Nat → Prop) (A : Option Addr) (m c : Nat) (news : List Value) (hx : a.eval x = .slice A m c) (hr : Row F w size A m news) (h1 : ∀ u ∈ news, u.oneCell' = true)
    (hbytes : (n + m) * bytes ≤ 140737488355328) (hb1 : 0 < bytes) (hbase : base ≤ w.heap.size)
    (h : ∀ v' w', w'.ownsRow base e size v' (n + m) (xs ++ news) → w.grownBy w' v.ownBlock → (v'.ownBlock = v.ownBlock ∨ v'.ownBlock = some w.heap.size) → wpList P ops Q rest (a.put o.dst v') w') : wpList P ops Q (o :: rest) a w :=
  wpList_plain hgd fun _ hK => wp_append_row w s x t ho base e i z size bytes ht hi hz hsize hby hzs hsz v n xs hs hown F A m c news hx hr h1 hbytes hb1 hbase fun v' w' h2 h3 h4 => hK _ _ (h v' w' h2 h3 h4)

end

end Go.Proofs.YtajeghkjppkhcaaGreat

/-!
  Several texts in one: Cmp, Fval, Ord, ZipP, SortP, MapEqP.
-/

/-!
  Plain definitions, no program in sight: the order and the equality of values.
-/

set_option exponentiation.threshold 4000
namespace Go.Proofs.YtajeghkjppkhcaaGreat

def cmpI (a b : Int) : Int := if a < b then -1 else if b < a then 1 else 0
def cmpB (a b : Bool) : Int := if a = b then 0 else if a then 1 else -1
def fcmp (a b : Nat) : Int := match FloatKind.f64.format.order a b with | some .lt => -1 | some .gt => 1 | _ => 0
def feq (a b : Nat) : Bool := FloatKind.f64.format.order a b == some .eq
def cmpS (a b : ByteArray) : Int := Lib.compareBytes a.data.toList b.data.toList
/-- a whole number as a floating-point number -/
def toF (n : Int) : Nat := FloatKind.f64.nearest n

/-- the rank of a value's kind -/
def T.ord : T → Int
  | .int _ => 0
  | .flt _ => 0
  | .str _ => 1
  | .bool _ => 2
  | .list _ => 3
  | .map _ => 4
  | .null => 5

mutual
def T.cmp : T → T → Int
  | .int a, .int b => cmpI a b
  | .int a, .flt b => fcmp (toF a) b
  | .flt a, .int b => fcmp a (toF b)
  | .flt a, .flt b => fcmp a b
  | .str a, .str b => cmpS a b
  | .bool a, .bool b => cmpB a b
  | .list a, .list b => T.cmpL a b
  | .map a, .map b => T.cmpM a b
  | a, b => cmpI a.ord b.ord
def T.cmpL : List T → List T → Int
  | [], [] => 0
  | [], _ :: _ => -1
  | _ :: _, [] => 1
  | a :: as, b :: bs => if T.cmp a b = 0 then T.cmpL as bs else T.cmp a b
def T.cmpM : List (ByteArray × T) → List (ByteArray × T) → Int
  | [], [] => 0
  | [], _ :: _ => -1
  | _ :: _, [] => 1
  | (k, a) :: as, (l, b) :: bs => if cmpS k l = 0 then (if T.cmp a b = 0 then T.cmpM as bs else T.cmp a b) else cmpS k l
end

mutual
def T.eqv : T → T → Bool
  | .int a, .int b => a == b
  | .int a, .flt b => feq (toF a) b
  | .flt a, .int b => feq a (toF b)
  | .flt a, .flt b => feq a b
  | .str a, .str b => decide (a = b)
  | .bool a, .bool b => a == b
  | .list a, .list b => T.eqvL a b
  | .map a, .map b => T.eqvM a b
  | .null, .null => true
  | _, _ => false
def T.eqvL : List T → List T → Bool
  | [], [] => true
  | a :: as, b :: bs => T.eqv a b && T.eqvL as bs
  | _, _ => false
def T.eqvM : List (ByteArray × T) → List (ByteArray × T) → Bool
  | [], [] => true
  | (k, a) :: as, (l, b) :: bs => decide (k = l) && (T.eqv a b && T.eqvM as bs)
  | _, _ => false
end

theorem cmp_lt {a b : T} (h : a.ord < b.ord) : T.cmp a b = -1 := by
  cases a <;> cases b <;> simp [T.ord] at h <;> simp [T.cmp, T.ord, cmpI]
theorem cmp_gt {a b : T} (h : b.ord < a.ord) : T.cmp a b = 1 := by
  cases a <;> cases b <;> simp [T.ord] at h <;> simp [T.cmp, T.ord, cmpI]
end Go.Proofs.YtajeghkjppkhcaaGreat

/-!
  Plain: floating-point numbers as whole numbers (of the least unit), and their order.
-/

namespace Go.Proofs.YtajeghkjppkhcaaGreat

/-- what a word stands for, in units of 2^-1074; the infinities as numbers beyond all others -/
def fvalD : Ieee.Datum → Option Int
  | .number s m e => some (Ieee.signed s m (e + 1074).toNat)
  | .infinity s => some (if s then -(2 ^ 3000) else 2 ^ 3000)
  | .nan _ _ => none
def fval (x : Nat) : Option Int := fvalD (Ieee.double.read x)

/-- data as read from a word -/
def Dread : Ieee.Datum → Prop
  | .number _ m e => m < 2 ^ 53 ∧ -1074 ≤ e ∧ e ≤ 971
  | _ => True

theorem dread (x : Nat) : Dread (Ieee.double.read x) := by
  unfold Ieee.Format.read
  have h1 : Ieee.double.binade = 4503599627370496 := by rfl
  have h2 : Ieee.double.infRung = 9218868437227405312 := by rfl
  have h3 : Ieee.double.leastPlace = -1074 := by rfl
  simp only [h1, h2, h3]
  generalize x % Ieee.double.signWeight = r
  split
  · exact ⟨by omega, by omega, by omega⟩
  · split
    · refine ⟨?_, ?_, ?_⟩ <;> omega
    · split
      · trivial
      · trivial

theorem shl_int (m k : Nat) : ((m <<< k : Nat) : Int) = (m : Int) * 2 ^ k := by
  rw [Nat.shiftLeft_eq]
  push_cast
  rfl
theorem signed_eq (s : Bool) (m k : Nat) : Ieee.signed s m k = (if s then -(m : Int) else (m : Int)) * 2 ^ k := by
  unfold Ieee.signed
  rw [shl_int]
  cases s <;> simp [Int.neg_mul]

theorem cmp_mul (a b : Int) (c : Int) (hc : 0 < c) : compare (a * c) (b * c) = compare a b := by
  rcases Int.lt_trichotomy a b with h | h | h
  · have h' : a * c < b * c := Int.mul_lt_mul_of_pos_right h hc
    rw [Int.compare_eq_lt.2 h, Int.compare_eq_lt.2 h']
  · subst h
    rw [Int.compare_eq_eq.2 rfl, Int.compare_eq_eq.2 rfl]
  · have h' : b * c < a * c := Int.mul_lt_mul_of_pos_right h hc
    rw [Int.compare_eq_gt.2 h, Int.compare_eq_gt.2 h']

theorem signed_small {s : Bool} {m : Nat} {e : Int} (hm : m < 2 ^ 53) (h1 : -1074 ≤ e) (h2 : e ≤ 971) : -(2 ^ 3000 : Int) < Ieee.signed s m (e + 1074).toNat ∧ Ieee.signed s m (e + 1074).toNat < 2 ^ 3000 := by
  rw [signed_eq]
  have hk : (e + 1074).toNat ≤ 2045 := by omega
  generalize (e + 1074).toNat = k at hk
  have hp : (2 : Nat) ^ k ≤ 2 ^ 2045 := Nat.pow_le_pow_right (by omega) hk
  have hlt : m * 2 ^ k < 2 ^ 3000 := by
    calc m * 2 ^ k ≤ m * 2 ^ 2045 := Nat.mul_le_mul_left _ hp
      _ < 2 ^ 53 * 2 ^ 2045 := Nat.mul_lt_mul_of_pos_right hm (Nat.two_pow_pos _)
      _ = 2 ^ 2098 := by rw [← Nat.pow_add]
      _ ≤ 2 ^ 3000 := Nat.pow_le_pow_right (by omega) (by omega)
  have hlt' : ((m : Int) * 2 ^ k) < 2 ^ 3000 := by exact_mod_cast hlt
  have h0 : (0 : Int) ≤ (m : Int) * 2 ^ k := by exact_mod_cast Nat.zero_le (m * 2 ^ k)
  generalize (2 ^ 3000 : Int) = B at *
  cases s
  · simp only [Bool.false_eq_true, if_false]
    omega
  · simp only [if_true, Int.neg_mul]
    omega

theorem orderD {a b : Ieee.Datum} (ha : Dread a) (hb : Dread b) : a.order b = match fvalD a, fvalD b with | some x, some y => some (compare x y) | _, _ => none := by
  cases a with
  | nan s t => simp [Ieee.Datum.order, fvalD]
  | infinity s =>
    cases b with
    | nan t u => simp [Ieee.Datum.order, fvalD]
    | infinity t =>
      have hB : (0 : Int) < 2 ^ 3000 := Int.pow_pos (by omega)
      simp only [Ieee.Datum.order, fvalD]
      generalize (2 ^ 3000 : Int) = B at hB
      cases s <;> cases t <;> simp only [Bool.false_eq_true, if_false, if_true, Bool.toNat_false, Bool.toNat_true]
      · rw [Int.compare_eq_eq.2 rfl]; rfl
      · rw [Int.compare_eq_gt.2 (by omega)]; rfl
      · rw [Int.compare_eq_lt.2 (by omega)]; rfl
      · rw [Int.compare_eq_eq.2 rfl]; rfl
    | number t n j =>
      obtain ⟨h1, h2, h3⟩ := hb
      obtain ⟨q1, q2⟩ := signed_small (s := t) h1 h2 h3
      simp only [Ieee.Datum.order, fvalD]
      generalize Ieee.signed t n (j + 1074).toNat = v at *
      have hB : (0 : Int) < 2 ^ 3000 := Int.pow_pos (by omega)
      generalize (2 ^ 3000 : Int) = B at *
      cases s
      · simp only [Bool.false_eq_true, if_false]
        rw [Int.compare_eq_gt.2 (by omega)]
      · simp only [if_true]
        rw [Int.compare_eq_lt.2 (by omega)]
  | number s m i =>
    cases b with
    | nan t u => simp [Ieee.Datum.order, fvalD]
    | infinity t =>
      obtain ⟨h1, h2, h3⟩ := ha
      obtain ⟨q1, q2⟩ := signed_small (s := s) h1 h2 h3
      simp only [Ieee.Datum.order, fvalD]
      generalize Ieee.signed s m (i + 1074).toNat = v at *
      have hB : (0 : Int) < 2 ^ 3000 := Int.pow_pos (by omega)
      generalize (2 ^ 3000 : Int) = B at *
      cases t
      · simp only [Bool.false_eq_true, if_false]
        rw [Int.compare_eq_lt.2 (by omega)]
      · simp only [if_true]
        rw [Int.compare_eq_gt.2 (by omega)]
    | number t n j =>
      obtain ⟨h1, h2, h3⟩ := ha
      obtain ⟨h4, h5, h6⟩ := hb
      simp only [Ieee.Datum.order, fvalD, signed_eq]
      congr 1
      generalize (if s = true then -(m : Int) else (m : Int)) = x
      generalize (if t = true then -(n : Int) else (n : Int)) = y
      have e1 : (i + 1074).toNat = (i - min i j).toNat + (min i j + 1074).toNat := by omega
      have e2 : (j + 1074).toNat = (j - min i j).toNat + (min i j + 1074).toNat := by omega
      rw [e1, e2, Int.pow_add, Int.pow_add, ← Int.mul_assoc, ← Int.mul_assoc, cmp_mul]
      exact Int.pow_pos (by omega)

theorem forder (x y : Nat) : FloatKind.f64.format.order x y = match fval x, fval y with | some a, some b => some (compare a b) | _, _ => none := orderD (dread x) (dread y)

theorem fcmp_val {x y : Nat} {a b : Int} (hx : fval x = some a) (hy : fval y = some b) : fcmp x y = cmpI a b := by
  unfold fcmp cmpI
  rw [forder, hx, hy]
  rcases Int.lt_trichotomy a b with h | h | h
  · simp [Int.compare_eq_lt.2 h, h]
  · subst h
    simp [Int.compare_eq_eq.2 rfl]
  · have : ¬ a < b := by omega
    simp [Int.compare_eq_gt.2 h, h, this]
theorem feq_val {x y : Nat} {a b : Int} (hx : fval x = some a) (hy : fval y = some b) : feq x y = decide (a = b) := by
  unfold feq
  rw [forder, hx, hy]
  rcases Int.lt_trichotomy a b with h | h | h
  · have : ¬ a = b := by omega
    simp [Int.compare_eq_lt.2 h, this]
  · subst h
    simp [Int.compare_eq_eq.2 rfl]
  · have : ¬ a = b := by omega
    simp [Int.compare_eq_gt.2 h, this]
theorem feq_self (x : Nat) : feq x x = true ↔ ∃ a, fval x = some a := by
  unfold feq
  rw [forder]
  cases h : fval x with
  | none => simp
  | some a => simp [Int.compare_eq_eq.2 rfl]

theorem fval_of {x : Nat} {s : Bool} {m : Nat} {e : Int} {k : Nat} (h : Ieee.double.read x = .number s m e) (hk : (e + 1074).toNat = k) : fval x = some ((if s then -(m : Int) else (m : Int)) * 2 ^ k) := by
  unfold fval
  rw [h]
  unfold fvalD
  simp only
  rw [hk, signed_eq]

set_option maxRecDepth 100000 in
theorem toF_val (n : Int) (h1 : -9007199254740992 ≤ n) (h2 : n ≤ 9007199254740992) : fval (toF n) = some (n * 2 ^ 1074) := by
  by_cases h0 : n = 0
  · subst h0
    have : toF 0 = 0 := by decide
    rw [this]
    have : Ieee.double.read 0 = .number false 0 (-1074) := by decide
    unfold fval
    rw [this, Int.zero_mul]
    rfl
  by_cases hb : n.natAbs = 9007199254740992
  · have : n = 9007199254740992 ∨ n = -9007199254740992 := by omega
    rcases this with rfl | rfl
    · have : toF 9007199254740992 = 4845873199050653696 := by decide
      rw [this]
      have : Ieee.double.read 4845873199050653696 = .number false 4503599627370496 1 := by decide
      rw [fval_of this (k := 1075) (by decide)]
      simp only [Bool.false_eq_true, if_false]
      congr 1
    · have : toF (-9007199254740992) = 14069245235905429504 := by decide
      rw [this]
      have : Ieee.double.read 14069245235905429504 = .number true 4503599627370496 1 := by decide
      rw [fval_of this (k := 1075) (by decide)]
      simp only [if_true]
      congr 1
  · have hm0 : n.natAbs ≠ 0 := by omega
    have hm : n.natAbs < 2 ^ 53 := by omega
    have hl : n.natAbs.log2 < 53 := (Nat.log2_lt hm0).2 hm
    have hlo : 2 ^ n.natAbs.log2 ≤ n.natAbs := Nat.log2_self_le hm0
    have hhi : n.natAbs < 2 ^ (n.natAbs.log2 + 1) := Nat.lt_log2_self
    have hn : n = if decide (n < 0) = true then -(n.natAbs : Int) else (n.natAbs : Int) := by
      by_cases h : n < 0 <;> simp [h] <;> omega
    have e : toF n = Ieee.double.nearest (decide (n < 0)) n.natAbs 0 := rfl
    rw [e]
    generalize decide (n < 0) = neg at hn ⊢
    generalize n.natAbs = m at *
    subst hn
    clear e h1 h2 h0 hb
    obtain ⟨l, hl2⟩ : ∃ l, m.log2 = l := ⟨_, rfl⟩
    rw [hl2] at hl hlo hhi
    have hsplit : (2 : Nat) ^ 52 = 2 ^ l * 2 ^ (52 - l) := by rw [← Nat.pow_add]; congr 1; omega
    have hlo' : 4503599627370496 ≤ m * 2 ^ (52 - l) := by
      calc 4503599627370496 = 2 ^ l * 2 ^ (52 - l) := hsplit
        _ ≤ _ := Nat.mul_le_mul_right _ hlo
    have hhi' : m * 2 ^ (52 - l) < 9007199254740992 := by
      calc m * 2 ^ (52 - l) < 2 ^ (l + 1) * 2 ^ (52 - l) := Nat.mul_lt_mul_of_pos_right hhi (Nat.two_pow_pos _)
        _ = 2 * (2 ^ l * 2 ^ (52 - l)) := by rw [Nat.pow_succ, Nat.mul_comm (2 ^ l) 2, Nat.mul_assoc]
        _ = 9007199254740992 := by rw [← hsplit]
    have hr : Ieee.double.nearest neg m 0 = Ieee.double.word neg ((l + 1022) * 4503599627370496 + m * 2 ^ (52 - l)) := by
      unfold Ieee.Format.nearest
      have q1 : Ieee.double.binade = 4503599627370496 := by rfl
      have q2 : Ieee.double.infRung = 9218868437227405312 := by rfl
      have q3 : Ieee.double.leastPlace = -1074 := by rfl
      have q4 : (Ieee.double.fractionBits : Int) = 52 := by rfl
      rw [if_neg hm0]
      simp only [q1, q2, q3, q4, hl2]
      have g1 : max (0 + (l : Int) - 52) (-1074) = (l : Int) - 52 := by omega
      have g2 : ((0 : Int) - ((l : Int) - 52)).toNat = 52 - l := by omega
      have g3 : ((l : Int) - 52 - 0).toNat = 0 := by omega
      have g4 : ((l : Int) - 52 - -1074).toNat = l + 1022 := by omega
      rw [g1, g2, g3, g4, Nat.shiftLeft_eq]
      have gc : ∀ n : Nat, Ieee.Toward.even.cut neg n 0 = n := by
        intro n
        unfold Ieee.Toward.cut
        simp [Nat.mod_one]
      rw [gc, Nat.min_eq_left (by omega)]
    rw [hr]
    have hread : Ieee.double.read (Ieee.double.word neg ((l + 1022) * 4503599627370496 + m * 2 ^ (52 - l))) = .number neg (m * 2 ^ (52 - l)) ((l : Int) - 52) := by
      clear hr hsplit hlo hhi hm hm0 hl2
      generalize m * 2 ^ (52 - l) = k at *
      unfold Ieee.Format.read Ieee.Format.word
      have q1 : Ieee.double.binade = 4503599627370496 := by rfl
      have q2 : Ieee.double.infRung = 9218868437227405312 := by rfl
      have q3 : Ieee.double.leastPlace = -1074 := by rfl
      have q5 : Ieee.double.signWeight = 9223372036854775808 := by rfl
      simp only [q1, q2, q3, q5]
      have r1 : ((l + 1022) * 4503599627370496 + k) / 9223372036854775808 = 0 := by omega
      have r2 : ((l + 1022) * 4503599627370496 + k) % 9223372036854775808 = (l + 1022) * 4503599627370496 + k := by omega
      have r3 : (9223372036854775808 + ((l + 1022) * 4503599627370496 + k)) / 9223372036854775808 = 1 := by omega
      have r4 : (9223372036854775808 + ((l + 1022) * 4503599627370496 + k)) % 9223372036854775808 = (l + 1022) * 4503599627370496 + k := by omega
      have r5 : ((l + 1022) * 4503599627370496 + k) / 4503599627370496 = l + 1023 := by omega
      have r6 : 4503599627370496 + ((l + 1022) * 4503599627370496 + k) % 4503599627370496 = k := by omega
      cases neg
      · simp only [Bool.false_eq_true, if_false, r1, r2, r5, r6]
        rw [if_neg (by omega), if_pos (by omega)]
        have : (-1074 : Int) + ((l + 1023 - 1 : Nat) : Int) = (l : Int) - 52 := by omega
        rw [this]
        rfl
      · simp only [if_true, r3, r4, r5, r6]
        rw [if_neg (by omega), if_pos (by omega)]
        have : (-1074 : Int) + ((l + 1023 - 1 : Nat) : Int) = (l : Int) - 52 := by omega
        rw [this]
        rfl
    have hk : ((l : Int) - 52 + 1074).toNat = l + 1022 := by clear hr hread hsplit hlo hhi hlo' hhi'; omega
    rw [fval_of hread hk]
    have e2 : ((m * 2 ^ (52 - l) : Nat) : Int) = (m : Int) * 2 ^ (52 - l) := by push_cast; rfl
    have e3 : (2 : Int) ^ 1074 = 2 ^ (52 - l) * 2 ^ (l + 1022) := by rw [← Int.pow_add]; congr 1; omega
    rw [e2, e3]
    congr 1
    cases neg
    · simp only [Bool.false_eq_true, if_false]
      rw [Int.mul_assoc]
    · simp only [if_true]
      rw [Int.neg_mul, Int.neg_mul, Int.mul_assoc]
end Go.Proofs.YtajeghkjppkhcaaGreat

/-!
  Plain: the order and the equality of values without NaN and without whole numbers beyond 2^53 in magnitude are a total order.
-/

namespace Go.Proofs.YtajeghkjppkhcaaGreat

theorem cmpB_eq (a : List UInt8) : ∀ b : List UInt8, Lib.compareBytes a b = if a < b then -1 else if a = b then 0 else 1 := by
  induction a with
  | nil => intro b; cases b <;> simp [Lib.compareBytes]
  | cons x a ih =>
    intro b
    cases b with
    | nil => simp [Lib.compareBytes]
    | cons y b =>
      rw [Lib.compareBytes, ih b]
      simp only [List.cons_lt_cons_iff, List.cons.injEq]
      by_cases h1 : x < y
      · simp [h1]
      · by_cases h2 : y < x
        · have h3 : x ≠ y := by rintro rfl; exact u8lt_irrefl _ h2
          simp [h1, h2, h3]
        · have h3 : x = y := UInt8.le_antisymm (UInt8.not_lt.1 h2) (UInt8.not_lt.1 h1)
          subst h3
          simp
theorem cmpS_eq (a b : ByteArray) : cmpS a b = if klt a b = true then -1 else if a = b then 0 else 1 := by
  unfold cmpS
  rw [cmpB_eq]
  have e1 : (a.data.toList < b.data.toList) ↔ klt a b = true := (klt_iff a b).symm
  have e2 : (a.data.toList = b.data.toList) ↔ a = b := ⟨fun h => bytes_ext h, fun h => by rw [h]⟩
  simp only [e1, e2]
theorem cmpS_zero {a b : ByteArray} : cmpS a b = 0 ↔ a = b := by
  rw [cmpS_eq]
  by_cases h : klt a b = true
  · simp [h, klt_ne h]
  · by_cases h2 : a = b
    · subst h2; simp [klt_irrefl]
    · simp [h, h2]
theorem cmpS_neg {a b : ByteArray} : cmpS a b < 0 ↔ klt a b = true := by
  rw [cmpS_eq]
  by_cases h : klt a b = true
  · simp [h]
  · by_cases h2 : a = b
    · subst h2; simp [klt_irrefl]
    · simp [h, h2]
theorem cmpS_turn (a b : ByteArray) : cmpS b a = - cmpS a b := by
  rcases klt_total a b with h | h | h
  · subst h; rw [cmpS_zero.2 rfl]; rfl
  · rw [cmpS_eq a b, cmpS_eq b a]; simp [h, klt_asymm h, (klt_ne h).symm]
  · rw [cmpS_eq a b, cmpS_eq b a]; simp [h, klt_asymm h, (klt_ne h).symm]
theorem cmpI_zero {a b : Int} : cmpI a b = 0 ↔ a = b := by unfold cmpI; split <;> (try split) <;> constructor <;> intro h <;> omega
theorem cmpI_turn (a b : Int) : cmpI b a = - cmpI a b := by unfold cmpI; split <;> (try split) <;> (try split) <;> omega

/-- no NaN, no whole number beyond 2^53 in magnitude -/
inductive T.Ok : T → Prop
  | null : Ok .null
  | bool (b : Bool) : Ok (.bool b)
  | int {n : Int} : -9007199254740992 ≤ n → n ≤ 9007199254740992 → Ok (.int n)
  | flt {f : Nat} {a : Int} : fval f = some a → Ok (.flt f)
  | str (s : ByteArray) : Ok (.str s)
  | list {l : List T} : (∀ t ∈ l, Ok t) → Ok (.list l)
  | map {l : List (ByteArray × T)} : (∀ k t, (k, t) ∈ l → Ok t) → Ok (.map l)
theorem T.Ok.items {l : List T} (h : T.Ok (.list l)) : ∀ t ∈ l, T.Ok t := by cases h; assumption
theorem T.Ok.fields {l : List (ByteArray × T)} (h : T.Ok (.map l)) : ∀ k t, (k, t) ∈ l → T.Ok t := by cases h; assumption

/-- a number, in units of 2^-1074 -/
def T.num : T → Int
  | .int n => n * 2 ^ 1074
  | .flt f => (fval f).getD 0
  | _ => 0
/-- is it a number? -/
def T.isNum : T → Bool
  | .int _ => true
  | .flt _ => true
  | _ => false

theorem cmpI_mul (a b c : Int) (hc : 0 < c) : cmpI (a * c) (b * c) = cmpI a b := by
  unfold cmpI
  have h1 : a * c < b * c ↔ a < b := Int.mul_lt_mul_right hc
  have h2 : b * c < a * c ↔ b < a := Int.mul_lt_mul_right hc
  simp only [h1, h2]
theorem pow1074 : (0 : Int) < 2 ^ 1074 := Int.pow_pos (by omega)
theorem num_int (n : Int) : (T.int n).num = n * 2 ^ 1074 := by simp only [T.num]
theorem num_flt {f : Nat} {a : Int} (h : fval f = some a) : (T.flt f).num = a := by show (fval f).getD 0 = a; rw [h]; rfl
theorem num_cmp {a b : T} (ha : a.Ok) (hb : b.Ok) (na : a.isNum = true) (nb : b.isNum = true) : T.cmp a b = cmpI a.num b.num ∧ T.eqv a b = decide (a.num = b.num) := by
  have hp := pow1074
  cases ha with
  | @int x h1 h2 =>
    have e := toF_val _ h1 h2
    cases hb with
    | @int y h3 h4 =>
      rw [num_int, num_int, cmpI_mul _ _ _ hp, T.cmp, T.eqv]
      have : (x * 2 ^ 1074 = y * 2 ^ 1074) ↔ x = y := Int.mul_eq_mul_right_iff (Int.ne_of_gt hp)
      rw [decide_eq_decide.2 this]
      exact ⟨rfl, rfl⟩
    | flt h =>
      rw [num_int, num_flt h, T.cmp, T.eqv, fcmp_val e h, feq_val e h]
      exact ⟨rfl, rfl⟩
    | _ => cases nb
  | flt h =>
    cases hb with
    | int h3 h4 =>
      have e := toF_val _ h3 h4
      rw [num_int, num_flt h, T.cmp, T.eqv, fcmp_val h e, feq_val h e]
      exact ⟨rfl, rfl⟩
    | flt h' =>
      rw [num_flt h, num_flt h', T.cmp, T.eqv, fcmp_val h h', feq_val h h']
      exact ⟨rfl, rfl⟩
    | _ => cases nb
  | _ => cases na

/-- the order of three -/
def Tr (x y z : Int) : Prop := (x = 0 → y = 0 → z = 0) ∧ (x ≤ 0 → y ≤ 0 → (x < 0 ∨ y < 0) → z < 0)
theorem Tr.of_cmpI (a b c : Int) : Tr (cmpI a b) (cmpI b c) (cmpI a c) := by
  unfold Tr cmpI
  constructor
  · repeat' split
    all_goals omega
  · repeat' split
    all_goals omega
theorem Tr.of_cmpS (a b c : ByteArray) : Tr (cmpS a b) (cmpS b c) (cmpS a c) := by
  constructor
  · intro h1 h2
    rw [cmpS_zero] at h1 h2 ⊢
    rw [h1, h2]
  · intro h1 h2 h3
    have g : ∀ x y, cmpS x y ≤ 0 → x = y ∨ klt x y = true := by
      intro x y h
      rcases Int.lt_or_eq_of_le h with h | h
      · exact .inr (cmpS_neg.1 h)
      · exact .inl (cmpS_zero.1 h)
    rw [cmpS_neg]
    rcases g _ _ h1 with e1 | e1 <;> rcases g _ _ h2 with e2 | e2
    · subst e1; subst e2
      rw [cmpS_zero.2 rfl] at h3
      omega
    · subst e1; exact e2
    · subst e2; exact e1
    · exact klt_trans e1 e2
theorem Tr.lex {x y z x' y' z' : Int} (h : Tr x y z) (e : x = 0 → y = 0 → Tr x' y' z') : Tr (if x = 0 then x' else x) (if y = 0 then y' else y) (if z = 0 then z' else z) := by
  by_cases hx : x = 0
  · by_cases hy : y = 0
    · rw [if_pos hx, if_pos hy, if_pos (h.1 hx hy)]
      exact e hx hy
    · rw [if_pos hx, if_neg hy]
      refine ⟨fun _ b => absurd b hy, fun _ b _ => ?_⟩
      have hz := h.2 (by omega) b (.inr (by omega))
      rw [if_neg (by omega)]
      exact hz
  · rw [if_neg hx]
    refine ⟨fun a => absurd a hx, fun a b _ => ?_⟩
    have hy : y ≤ 0 := by
      by_cases hy : y = 0
      · omega
      · rw [if_neg hy] at b
        exact b
    have hz := h.2 a hy (.inl (by omega))
    rw [if_neg (by omega)]
    exact hz
mutual
theorem cmp_self : ∀ {a : T}, a.Ok → T.cmp a a = 0
  | .null, _ => by simp [T.cmp, T.ord, cmpI]
  | .bool b, _ => by simp [T.cmp, cmpB]
  | .int n, _ => by simp [T.cmp, cmpI]
  | .flt f, h => by rw [(num_cmp h h rfl rfl).1]; exact cmpI_zero.2 rfl
  | .str s, _ => by rw [T.cmp]; exact cmpS_zero.2 rfl
  | .list l, h => by rw [T.cmp]; exact cmpL_self l h.items
  | .map l, h => by rw [T.cmp]; exact cmpM_self l h.fields
theorem cmpL_self : ∀ l : List T, (∀ t ∈ l, T.Ok t) → T.cmpL l l = 0
  | [], _ => by rw [T.cmpL]
  | a :: l, h => by rw [T.cmpL, cmp_self (h a (by simp)), if_pos rfl]; exact cmpL_self l fun t ht => h t (by simp [ht])
theorem cmpM_self : ∀ l : List (ByteArray × T), (∀ k t, (k, t) ∈ l → T.Ok t) → T.cmpM l l = 0
  | [], _ => by rw [T.cmpM]
  | (k, a) :: l, h => by rw [T.cmpM, cmpS_zero.2 rfl, if_pos rfl, cmp_self (h k a (by simp)), if_pos rfl]; exact cmpM_self l fun k t ht => h k t (by simp [ht])
end

theorem ord_num {a : T} : a.ord = 0 ↔ a.isNum = true := by cases a <;> simp [T.ord, T.isNum]

/-- values of one kind that are no numbers -/
theorem cmp_kinds {a b : T} (h : a.ord ≠ b.ord) : T.cmp a b = cmpI a.ord b.ord := by
  rcases Int.lt_or_gt_of_ne h with h1 | h1
  · rw [cmp_lt h1]; unfold cmpI; rw [if_pos h1]
  · rw [cmp_gt h1]; unfold cmpI; rw [if_neg (by omega), if_pos h1]

mutual
theorem cmp_turn : ∀ (a b : T), a.Ok → b.Ok → T.cmp b a = - T.cmp a b
  | .null, b, _, hb => by cases b <;> simp [T.cmp, T.ord, cmpI]
  | .bool x, b, _, hb => by cases b <;> simp [T.cmp, T.ord, cmpI]; rename_i y; cases x <;> cases y <;> simp [cmpB]
  | .int n, b, ha, hb => by
    by_cases h : b.isNum = true
    · rw [(num_cmp ha hb rfl h).1, (num_cmp hb ha h rfl).1, cmpI_turn]
    · cases b <;> simp [T.isNum] at h <;> simp [T.cmp, T.ord, cmpI]
  | .flt f, b, ha, hb => by
    by_cases h : b.isNum = true
    · rw [(num_cmp ha hb rfl h).1, (num_cmp hb ha h rfl).1, cmpI_turn]
    · cases b <;> simp [T.isNum] at h <;> simp [T.cmp, T.ord, cmpI]
  | .str s, b, _, hb => by cases b <;> simp [T.cmp, T.ord, cmpI]; exact cmpS_turn _ _
  | .list l, b, ha, hb => by
    cases b with
    | list m => rw [T.cmp, T.cmp]; exact cmpL_turn l m ha.items hb.items
    | _ => simp [T.cmp, T.ord, cmpI]
  | .map l, b, ha, hb => by
    cases b with
    | map m => rw [T.cmp, T.cmp]; exact cmpM_turn l m ha.fields hb.fields
    | _ => simp [T.cmp, T.ord, cmpI]
theorem cmpL_turn : ∀ (l m : List T), (∀ t ∈ l, T.Ok t) → (∀ t ∈ m, T.Ok t) → T.cmpL m l = - T.cmpL l m
  | [], [], _, _ => by simp [T.cmpL]
  | [], _ :: _, _, _ => by simp [T.cmpL]
  | _ :: _, [], _, _ => by simp [T.cmpL]
  | a :: l, b :: m, h1, h2 => by
    have e := cmp_turn a b (h1 a (by simp)) (h2 b (by simp))
    have e2 := cmpL_turn l m (fun t ht => h1 t (by simp [ht])) (fun t ht => h2 t (by simp [ht]))
    rw [T.cmpL, T.cmpL, e, e2]
    by_cases h : T.cmp a b = 0
    · rw [if_pos (by omega), if_pos h]
    · rw [if_neg (by omega), if_neg h]
theorem cmpM_turn : ∀ (l m : List (ByteArray × T)), (∀ k t, (k, t) ∈ l → T.Ok t) → (∀ k t, (k, t) ∈ m → T.Ok t) → T.cmpM m l = - T.cmpM l m
  | [], [], _, _ => by simp [T.cmpM]
  | [], _ :: _, _, _ => by simp [T.cmpM]
  | _ :: _, [], _, _ => by simp [T.cmpM]
  | (k, a) :: l, (j, b) :: m, h1, h2 => by
    have e := cmp_turn a b (h1 k a (by simp)) (h2 j b (by simp))
    have e2 := cmpM_turn l m (fun k t ht => h1 k t (by simp [ht])) (fun k t ht => h2 k t (by simp [ht]))
    have e3 := cmpS_turn k j
    rw [T.cmpM, T.cmpM, e, e2, e3]
    by_cases h : cmpS k j = 0
    · rw [if_pos (by omega), if_pos h]
      by_cases h : T.cmp a b = 0
      · rw [if_pos (by omega), if_pos h]
      · rw [if_neg (by omega), if_neg h]
    · rw [if_neg (by omega), if_neg h]
end

theorem tr_kinds (a b c : T) (ha : a.Ok) (hb : b.Ok) (hc : c.Ok) (hl : ∀ x y z, a = .list x → b = .list y → c = .list z → Tr (T.cmpL x y) (T.cmpL y z) (T.cmpL x z))
    (hm : ∀ x y z, a = .map x → b = .map y → c = .map z → Tr (T.cmpM x y) (T.cmpM y z) (T.cmpM x z)) : Tr (T.cmp a b) (T.cmp b c) (T.cmp a c) := by
    by_cases e1 : a.ord = b.ord
    · by_cases e2 : b.ord = c.ord
      · by_cases e3 : a.ord = 0
        · have na := ord_num.1 e3
          have nb := ord_num.1 (e1 ▸ e3)
          have nc := ord_num.1 (e2 ▸ e1 ▸ e3)
          rw [(num_cmp ha hb na nb).1, (num_cmp hb hc nb nc).1, (num_cmp ha hc na nc).1]
          exact Tr.of_cmpI _ _ _
        · cases a with
          | null => cases b <;> simp [T.ord] at e1; cases c <;> simp [T.ord] at e2; simp [T.cmp, T.ord, cmpI, Tr]
          | bool x =>
            cases b <;> simp [T.ord] at e1
            cases c <;> simp [T.ord] at e2
            simp only [T.cmp]
            rename_i y z
            cases x <;> cases y <;> cases z <;> simp [cmpB, Tr]
          | str x =>
            cases b <;> simp [T.ord] at e1
            cases c <;> simp [T.ord] at e2
            simp only [T.cmp]
            exact Tr.of_cmpS _ _ _
          | list x =>
            cases b <;> simp [T.ord] at e1
            cases c <;> simp [T.ord] at e2
            simp only [T.cmp]
            exact hl _ _ _ rfl rfl rfl
          | map x =>
            cases b <;> simp [T.ord] at e1
            cases c <;> simp [T.ord] at e2
            simp only [T.cmp]
            exact hm _ _ _ rfl rfl rfl
          | int x => exact absurd rfl e3
          | flt x => exact absurd rfl e3
      · have h1 : T.cmp a c = cmpI a.ord c.ord := cmp_kinds (by rw [e1]; exact e2)
        have h2 : T.cmp b c = cmpI b.ord c.ord := cmp_kinds e2
        rw [h1, h2, e1]
        unfold Tr cmpI
        constructor
        · intro _ h; exact h
        · intro _ h _
          split at h
          · rename_i g; rw [if_pos g]; omega
          · split at h <;> omega
    · have h1 : T.cmp a b = cmpI a.ord b.ord := cmp_kinds e1
      by_cases e2 : b.ord = c.ord
      · have h2 : T.cmp a c = cmpI a.ord c.ord := cmp_kinds (by rw [← e2]; exact e1)
        rw [h1, h2, e2]
        unfold Tr cmpI
        constructor
        · intro h _; exact h
        · intro h _ _
          split at h
          · rename_i g; rw [if_pos g]; omega
          · split at h <;> omega
      · have h2 : T.cmp b c = cmpI b.ord c.ord := cmp_kinds e2
        by_cases e3 : a.ord = c.ord
        · rw [h1, h2, e3]
          unfold Tr cmpI
          constructor
          · intro h; exfalso; revert h; repeat' split
            all_goals omega
          · intro h g; exfalso; revert h g; repeat' split
            all_goals omega
        · rw [h1, h2, cmp_kinds e3]
          exact Tr.of_cmpI _ _ _
mutual
theorem cmp_tr : ∀ (a b c : T), a.Ok → b.Ok → c.Ok → Tr (T.cmp a b) (T.cmp b c) (T.cmp a c)
  | .null, b, c, ha, hb, hc => tr_kinds _ _ _ ha hb hc (fun _ _ _ h => by cases h) (fun _ _ _ h => by cases h)
  | .bool _, b, c, ha, hb, hc => tr_kinds _ _ _ ha hb hc (fun _ _ _ h => by cases h) (fun _ _ _ h => by cases h)
  | .int _, b, c, ha, hb, hc => tr_kinds _ _ _ ha hb hc (fun _ _ _ h => by cases h) (fun _ _ _ h => by cases h)
  | .flt _, b, c, ha, hb, hc => tr_kinds _ _ _ ha hb hc (fun _ _ _ h => by cases h) (fun _ _ _ h => by cases h)
  | .str _, b, c, ha, hb, hc => tr_kinds _ _ _ ha hb hc (fun _ _ _ h => by cases h) (fun _ _ _ h => by cases h)
  | .list x, b, c, ha, hb, hc => tr_kinds _ _ _ ha hb hc (fun _ y z h h2 h3 => by cases h; subst h2; subst h3; exact cmpL_tr x y z ha.items hb.items hc.items) (fun _ _ _ h => by cases h)
  | .map x, b, c, ha, hb, hc => tr_kinds _ _ _ ha hb hc (fun _ _ _ h => by cases h) (fun _ y z h h2 h3 => by cases h; subst h2; subst h3; exact cmpM_tr x y z ha.fields hb.fields hc.fields)
theorem cmpL_tr : ∀ (x y z : List T), (∀ t ∈ x, T.Ok t) → (∀ t ∈ y, T.Ok t) → (∀ t ∈ z, T.Ok t) → Tr (T.cmpL x y) (T.cmpL y z) (T.cmpL x z)
  | [], [], [], _, _, _ => by simp [T.cmpL, Tr]
  | [], [], _ :: _, _, _, _ => by simp [T.cmpL, Tr]
  | [], _ :: _, [], _, _, _ => by simp [T.cmpL, Tr]
  | [], _ :: _, _ :: _, _, _, _ => by simp [T.cmpL, Tr]
  | _ :: _, [], [], _, _, _ => by simp [T.cmpL, Tr]
  | _ :: _, [], _ :: _, _, _, _ => by simp [T.cmpL, Tr]
  | _ :: _, _ :: _, [], _, _, _ => by simp [T.cmpL, Tr]
  | a :: x, b :: y, c :: z, h1, h2, h3 => by
    rw [T.cmpL, T.cmpL, T.cmpL]
    have e := cmpL_tr x y z (fun t ht => h1 t (by simp [ht])) (fun t ht => h2 t (by simp [ht])) (fun t ht => h3 t (by simp [ht]))
    exact Tr.lex (cmp_tr a b c (h1 a (by simp)) (h2 b (by simp)) (h3 c (by simp))) fun _ _ => e
theorem cmpM_tr : ∀ (x y z : List (ByteArray × T)), (∀ k t, (k, t) ∈ x → T.Ok t) → (∀ k t, (k, t) ∈ y → T.Ok t) → (∀ k t, (k, t) ∈ z → T.Ok t) → Tr (T.cmpM x y) (T.cmpM y z) (T.cmpM x z)
  | [], [], [], _, _, _ => by simp [T.cmpM, Tr]
  | [], [], _ :: _, _, _, _ => by simp [T.cmpM, Tr]
  | [], _ :: _, [], _, _, _ => by simp [T.cmpM, Tr]
  | [], _ :: _, _ :: _, _, _, _ => by simp [T.cmpM, Tr]
  | _ :: _, [], [], _, _, _ => by simp [T.cmpM, Tr]
  | _ :: _, [], _ :: _, _, _, _ => by simp [T.cmpM, Tr]
  | _ :: _, _ :: _, [], _, _, _ => by simp [T.cmpM, Tr]
  | (k, a) :: x, (j, b) :: y, (i, c) :: z, h1, h2, h3 => by
    rw [T.cmpM, T.cmpM, T.cmpM]
    have e := cmpM_tr x y z (fun k t ht => h1 k t (by simp [ht])) (fun k t ht => h2 k t (by simp [ht])) (fun k t ht => h3 k t (by simp [ht]))
    have e2 := Tr.lex (cmp_tr a b c (h1 k a (by simp)) (h2 j b (by simp)) (h3 i c (by simp))) fun _ _ => e
    exact Tr.lex (Tr.of_cmpS _ _ _) fun _ _ => e2
end

mutual
theorem eqv_iff : ∀ (a b : T), a.Ok → b.Ok → (T.eqv a b = true ↔ T.cmp a b = 0)
  | .null, b, _, _ => by cases b <;> simp [T.cmp, T.eqv, T.ord, cmpI]
  | .bool x, b, _, _ => by cases b <;> simp [T.cmp, T.eqv, T.ord, cmpI]; rename_i y; cases x <;> cases y <;> simp [cmpB]
  | .int n, b, ha, hb => by
    by_cases h : b.isNum = true
    · rw [(num_cmp ha hb rfl h).1, (num_cmp ha hb rfl h).2, cmpI_zero]; simp
    · cases b <;> simp [T.isNum] at h <;> simp [T.cmp, T.eqv, T.ord, cmpI]
  | .flt f, b, ha, hb => by
    by_cases h : b.isNum = true
    · rw [(num_cmp ha hb rfl h).1, (num_cmp ha hb rfl h).2, cmpI_zero]; simp
    · cases b <;> simp [T.isNum] at h <;> simp [T.cmp, T.eqv, T.ord, cmpI]
  | .str s, b, _, _ => by cases b <;> simp [T.cmp, T.eqv, T.ord, cmpI]; exact cmpS_zero.symm
  | .list l, b, ha, hb => by
    cases b with
    | list m => rw [T.cmp, T.eqv]; exact eqvL_iff l m ha.items hb.items
    | _ => simp [T.cmp, T.eqv, T.ord, cmpI]
  | .map l, b, ha, hb => by
    cases b with
    | map m => rw [T.cmp, T.eqv]; exact eqvM_iff l m ha.fields hb.fields
    | _ => simp [T.cmp, T.eqv, T.ord, cmpI]
theorem eqvL_iff : ∀ (l m : List T), (∀ t ∈ l, T.Ok t) → (∀ t ∈ m, T.Ok t) → (T.eqvL l m = true ↔ T.cmpL l m = 0)
  | [], [], _, _ => by simp [T.cmpL, T.eqvL]
  | [], _ :: _, _, _ => by simp [T.cmpL, T.eqvL]
  | _ :: _, [], _, _ => by simp [T.cmpL, T.eqvL]
  | a :: l, b :: m, h1, h2 => by
    have e := eqv_iff a b (h1 a (by simp)) (h2 b (by simp))
    have e2 := eqvL_iff l m (fun t ht => h1 t (by simp [ht])) (fun t ht => h2 t (by simp [ht]))
    rw [T.cmpL, T.eqvL, Bool.and_eq_true, e, e2]
    by_cases h : T.cmp a b = 0
    · rw [if_pos h]; simp [h]
    · rw [if_neg h]; simp [h]
theorem eqvM_iff : ∀ (l m : List (ByteArray × T)), (∀ k t, (k, t) ∈ l → T.Ok t) → (∀ k t, (k, t) ∈ m → T.Ok t) → (T.eqvM l m = true ↔ T.cmpM l m = 0)
  | [], [], _, _ => by simp [T.cmpM, T.eqvM]
  | [], _ :: _, _, _ => by simp [T.cmpM, T.eqvM]
  | _ :: _, [], _, _ => by simp [T.cmpM, T.eqvM]
  | (k, a) :: l, (j, b) :: m, h1, h2 => by
    have e := eqv_iff a b (h1 k a (by simp)) (h2 j b (by simp))
    have e2 := eqvM_iff l m (fun k t ht => h1 k t (by simp [ht])) (fun k t ht => h2 k t (by simp [ht]))
    rw [T.cmpM, T.eqvM, Bool.and_eq_true, Bool.and_eq_true, e, e2, decide_eq_true_iff]
    by_cases h : cmpS k j = 0
    · rw [if_pos h]
      have hk := cmpS_zero.1 h
      by_cases h : T.cmp a b = 0
      · rw [if_pos h]; simp [h, hk]
      · rw [if_neg h]; simp [h]
    · rw [if_neg h]
      have hk : ¬ k = j := fun e => h (cmpS_zero.2 e)
      simp [h, hk]
end

end Go.Proofs.YtajeghkjppkhcaaGreat

/-!
  Plain: the keys of two maps together, in order; what lies under a key.
-/

namespace Go.Proofs.YtajeghkjppkhcaaGreat

/-- strictly increasing -/
def SortK (l : List ByteArray) : Prop := l.Pairwise fun a b => klt a b = true

/-- the keys of both, each once, in order -/
def mergeK : List ByteArray → List ByteArray → List ByteArray
  | [], b => b
  | a, [] => a
  | x :: a, y :: b => if x = y then x :: mergeK a b else if klt x y = true then x :: mergeK a (y :: b) else y :: mergeK (x :: a) b
termination_by a b => a.length + b.length

theorem mergeK_nil (a : List ByteArray) : mergeK a [] = a := by cases a <;> simp [mergeK]
theorem mem_mergeK (a b : List ByteArray) (k : ByteArray) : k ∈ mergeK a b ↔ k ∈ a ∨ k ∈ b := by
  fun_induction mergeK a b with
  | case1 b => simp
  | case2 a h => simp
  | case3 a y b ih => simp only [List.mem_cons, ih]; constructor; (rintro (h | h | h) <;> simp [h]); (rintro ((h | h) | h | h) <;> simp [h])
  | case4 x a y b h1 h2 ih => simp only [List.mem_cons, ih]; simp [or_assoc]
  | case5 x a y b h1 h2 ih =>
    simp only [List.mem_cons, ih]
    constructor
    · rintro (h | (h | h) | h) <;> simp [h]
    · rintro ((h | h) | h | h) <;> simp [h]

theorem mergeK_sorted (a b : List ByteArray) (ha : SortK a) (hb : SortK b) : SortK (mergeK a b) := by
  fun_induction mergeK a b with
  | case1 b => exact hb
  | case2 a h => exact ha
  | case3 a y b ih =>
    obtain ⟨h1, h2⟩ := List.pairwise_cons.1 ha
    obtain ⟨h3, h4⟩ := List.pairwise_cons.1 hb
    refine List.pairwise_cons.2 ⟨fun k hk => ?_, ih h2 h4⟩
    rcases (mem_mergeK _ _ _).1 hk with h | h
    · exact h1 k h
    · exact h3 k h
  | case4 x a y b e1 e2 ih =>
    obtain ⟨h1, h2⟩ := List.pairwise_cons.1 ha
    refine List.pairwise_cons.2 ⟨fun k hk => ?_, ih h2 hb⟩
    rcases (mem_mergeK _ _ _).1 hk with h | h
    · exact h1 k h
    · rcases List.mem_cons.1 h with rfl | h
      · exact e2
      · exact klt_trans e2 ((List.pairwise_cons.1 hb).1 k h)
  | case5 x a y b e1 e2 ih =>
    have e3 : klt y x = true := klt_of_not (by simpa using e2) e1
    obtain ⟨h1, h2⟩ := List.pairwise_cons.1 hb
    refine List.pairwise_cons.2 ⟨fun k hk => ?_, ih ha h2⟩
    rcases (mem_mergeK _ _ _).1 hk with h | h
    · rcases List.mem_cons.1 h with rfl | h
      · exact e3
      · exact klt_trans e3 ((List.pairwise_cons.1 ha).1 k h)
    · exact h1 k h

theorem sortK_ext {a b : List ByteArray} (ha : SortK a) (hb : SortK b) (h : ∀ k, k ∈ a ↔ k ∈ b) : a = b := by
  induction a generalizing b with
  | nil =>
    cases b with
    | nil => rfl
    | cons y b => exact absurd ((h y).2 (by simp)) (by simp)
  | cons x a ih =>
    cases b with
    | nil => exact absurd ((h x).1 (by simp)) (by simp)
    | cons y b =>
      obtain ⟨h1, h2⟩ := List.pairwise_cons.1 ha
      obtain ⟨h3, h4⟩ := List.pairwise_cons.1 hb
      have e : x = y := by
        rcases List.mem_cons.1 ((h x).1 (by simp)) with e | e
        · exact e
        · rcases List.mem_cons.1 ((h y).2 (by simp)) with e' | e'
          · exact e'.symm
          · have g1 := h3 x e
            have g2 := h1 y e'
            rw [klt_asymm g1] at g2
            cases g2
      subst e
      rw [ih h2 h4 fun k => ?_]
      constructor
      · intro hk
        rcases List.mem_cons.1 ((h k).1 (by simp [hk])) with e | e
        · subst e; have := h1 k hk; rw [klt_irrefl] at this; cases this
        · exact e
      · intro hk
        rcases List.mem_cons.1 ((h k).2 (by simp [hk])) with e | e
        · subst e; have := h3 k hk; rw [klt_irrefl] at this; cases this
        · exact e
theorem SortK.nodup {l : List ByteArray} (h : SortK l) : l.Nodup := h.imp fun h => klt_ne h

/-- what lies under k -/
def getT {α : Type} (l : List (ByteArray × α)) (k : ByteArray) : Option α := (l.find? fun p => decide (p.1 = k)).map Prod.snd
section
variable {α : Type} {l : List (ByteArray × α)}
theorem getT_mem {k : ByteArray} {t : α} (h : getT l k = some t) : (k, t) ∈ l := by
  unfold getT at h
  cases hf : l.find? fun p => decide (p.1 = k) with
  | none => rw [hf] at h; cases h
  | some p =>
    rw [hf] at h
    have h1 := List.mem_of_find?_eq_some hf
    have h2 := List.find?_some hf
    simp at h h2
    obtain ⟨p1, p2⟩ := p
    simp at h h2
    subst h; subst h2
    exact h1
theorem getT_none {k : ByteArray} : getT l k = none ↔ k ∉ l.map Prod.fst := by
  unfold getT
  simp only [Option.map_eq_none_iff, List.find?_eq_none, decide_eq_true_eq, List.mem_map, not_exists, not_and]
theorem getT_of {k : ByteArray} {t : α} (hs : Sorted l) (h : (k, t) ∈ l) : getT l k = some t := by
  cases hg : getT l k with
  | none => exact absurd (List.mem_map.2 ⟨_, h, rfl⟩) (getT_none.1 hg)
  | some u =>
    have hu := getT_mem hg
    have hn := sorted_nodup hs
    congr 1
    clear hg
    induction l with
    | nil => cases h
    | cons p r ih =>
      simp only [List.map_cons, List.nodup_cons] at hn
      rcases List.mem_cons.1 h with e | e <;> rcases List.mem_cons.1 hu with e' | e'
      · subst e; cases e'; rfl
      · subst e; exact absurd (List.mem_map.2 ⟨_, e', rfl⟩) hn.1
      · subst e'; exact absurd (List.mem_map.2 ⟨_, e, rfl⟩) hn.1
      · exact ih (List.pairwise_cons.1 hs).2 e e' hn.2
end
theorem sortK_of {α : Type} {l : List (ByteArray × α)} (h : Sorted l) : SortK (l.map Prod.fst) := by
  unfold SortK
  rw [List.pairwise_map]
  exact h

/-- the keys of two maps -/
def bothK (l1 l2 : List (ByteArray × T)) : List ByteArray := mergeK (l1.map Prod.fst) (l2.map Prod.fst)

/-- two maps that are equal as far as the first i fields -/
structure CmpAt (l1 l2 : List (ByteArray × T)) (i : Nat) : Prop where
  le1 : i ≤ l1.length
  le2 : i ≤ l2.length
  same : (l1.take i).map Prod.fst = (l2.take i).map Prod.fst
  rest : (bothK l1 l2).drop i = mergeK ((l1.drop i).map Prod.fst) ((l2.drop i).map Prod.fst)
  val : T.cmpM (l1.drop i) (l2.drop i) = T.cmpM l1 l2

theorem CmpAt.zero (l1 l2 : List (ByteArray × T)) : CmpAt l1 l2 0 := ⟨Nat.zero_le _, Nat.zero_le _, rfl, by simp [bothK], by simp⟩

/-- what the closure of a comparison finds for the i-th key -/
def cmpStep (l1 l2 : List (ByteArray × T)) (i : Nat) (k : ByteArray) : Int :=
  if i = l1.length then -1 else if i = l2.length then 1 else match getT l1 k, getT l2 k with
    | none, _ => 1
    | some _, none => -1
    | some a, some b => T.cmp a b

theorem CmpAt.next {l1 l2 : List (ByteArray × T)} {i : Nat} {k : ByteArray} (h : CmpAt l1 l2 i) (s1 : Sorted l1) (s2 : Sorted l2) (hk : (bothK l1 l2)[i]? = some k) :
    (cmpStep l1 l2 i k = 0 → CmpAt l1 l2 (i + 1)) ∧ (cmpStep l1 l2 i k ≠ 0 → T.cmpM l1 l2 = cmpStep l1 l2 i k) := by
  obtain ⟨h1, h2, hs, hr, hv⟩ := h
  have hk' : ((bothK l1 l2).drop i)[0]? = some k := by rw [List.getElem?_drop]; simpa using hk
  unfold cmpStep
  by_cases e1 : i = l1.length
  · rw [if_pos e1]
    refine ⟨fun h => by omega, fun _ => ?_⟩
    rw [← hv]
    cases hd : l2.drop i with
    | nil =>
      rw [hr, hd, e1, List.drop_length] at hk'
      simp [mergeK_nil] at hk'
    | cons p r => rw [e1, List.drop_length]; simp [T.cmpM]
  · rw [if_neg e1]
    by_cases e2 : i = l2.length
    · rw [if_pos e2]
      refine ⟨fun h => by omega, fun _ => ?_⟩
      rw [← hv]
      have q1 := List.drop_eq_getElem_cons (show i < l1.length by omega)
      have q2 : l2.drop i = [] := List.drop_of_length_le (by omega)
      rw [q1, q2]
      simp [T.cmpM]
    · rw [if_neg e2]
      have g1 : i < l1.length := by omega
      have g2 : i < l2.length := by omega
      have d1 := List.drop_eq_getElem_cons g1
      have d2 := List.drop_eq_getElem_cons g2
      have m1 : (l1[i].1, l1[i].2) ∈ l1 := List.getElem_mem g1
      have m2 : (l2[i].1, l2[i].2) ∈ l2 := List.getElem_mem g2
      rw [d1, d2] at hv hr
      have t1 : l1.take (i + 1) = l1.take i ++ [l1[i]] := List.take_succ_eq_append_getElem g1
      have t2 : l2.take (i + 1) = l2.take i ++ [l2[i]] := List.take_succ_eq_append_getElem g2
      have a1 : ∀ k, k ∈ l1.map Prod.fst ↔ k ∈ (l1.take i).map Prod.fst ∨ k = l1[i].1 ∨ k ∈ (l1.drop (i + 1)).map Prod.fst := by
        intro k
        have := List.take_append_drop i l1
        rw [d1] at this
        have e : k ∈ l1.map Prod.fst ↔ k ∈ (l1.take i ++ l1[i] :: l1.drop (i + 1)).map Prod.fst := by rw [this]
        rw [e, List.map_append, List.map_cons, List.mem_append, List.mem_cons]
      have a2 : ∀ k, k ∈ l2.map Prod.fst ↔ k ∈ (l2.take i).map Prod.fst ∨ k = l2[i].1 ∨ k ∈ (l2.drop (i + 1)).map Prod.fst := by
        intro k
        have := List.take_append_drop i l2
        rw [d2] at this
        have e : k ∈ l2.map Prod.fst ↔ k ∈ (l2.take i ++ l2[i] :: l2.drop (i + 1)).map Prod.fst := by rw [this]
        rw [e, List.map_append, List.map_cons, List.mem_append, List.mem_cons]
      have b1 : ∀ k ∈ (l1.take i).map Prod.fst, klt k l1[i].1 = true := by
        intro k hk
        obtain ⟨p, hp, rfl⟩ := List.mem_map.1 hk
        have := List.take_append_drop i l1
        rw [d1] at this
        have hs1 : Sorted (l1.take i ++ l1[i] :: l1.drop (i + 1)) := by rw [this]; exact s1
        exact (List.pairwise_append.1 hs1).2.2 p hp _ List.mem_cons_self
      have b2 : ∀ k ∈ (l2.take i).map Prod.fst, klt k l2[i].1 = true := by
        intro k hk
        obtain ⟨p, hp, rfl⟩ := List.mem_map.1 hk
        have := List.take_append_drop i l2
        rw [d2] at this
        have hs1 : Sorted (l2.take i ++ l2[i] :: l2.drop (i + 1)) := by rw [this]; exact s2
        exact (List.pairwise_append.1 hs1).2.2 p hp _ List.mem_cons_self
      have c1 : ∀ k ∈ (l1.drop (i + 1)).map Prod.fst, klt l1[i].1 k = true := by
        intro k hk
        obtain ⟨p, hp, rfl⟩ := List.mem_map.1 hk
        have hs1 : Sorted (l1[i] :: l1.drop (i + 1)) := by rw [← d1]; exact List.Pairwise.drop s1
        exact (List.pairwise_cons.1 hs1).1 p hp
      have c2 : ∀ k ∈ (l2.drop (i + 1)).map Prod.fst, klt l2[i].1 k = true := by
        intro k hk
        obtain ⟨p, hp, rfl⟩ := List.mem_map.1 hk
        have hs1 : Sorted (l2[i] :: l2.drop (i + 1)) := by rw [← d2]; exact List.Pairwise.drop s2
        exact (List.pairwise_cons.1 hs1).1 p hp
      have gt1 := getT_of s1 m1
      have gt2 := getT_of s2 m2
      generalize l1[i] = p1 at *
      generalize l2[i] = p2 at *
      obtain ⟨k1, u1⟩ := p1
      obtain ⟨k2, u2⟩ := p2
      simp only [List.map_cons] at hv hr a1 a2 b1 b2 c1 c2 gt1 gt2
      rw [mergeK] at hr
      by_cases e : k1 = k2
      · subst e
        rw [if_pos rfl] at hr
        rw [hr] at hk'
        simp at hk'
        subst hk'
        rw [gt1, gt2]
        simp only
        rw [T.cmpM, cmpS_zero.2 rfl, if_pos rfl] at hv
        refine ⟨fun hz => ⟨g1, g2, ?_, ?_, ?_⟩, fun hz => ?_⟩
        · rw [t1, t2, List.map_append, List.map_append, hs]; rfl
        · rw [← List.drop_drop, hr]; rfl
        · rw [if_pos hz] at hv; exact hv
        · rw [if_neg hz] at hv; exact hv.symm
      · rw [if_neg e] at hr
        by_cases e' : klt k1 k2 = true
        · rw [if_pos e'] at hr
          rw [hr] at hk'
          simp at hk'
          subst hk'
          have hn : getT l2 k1 = none := by
            rw [getT_none, a2]
            rintro (h | h | h)
            · rw [← hs] at h
              have := b1 _ h
              rw [klt_irrefl] at this; cases this
            · exact e h
            · have := klt_trans (c2 _ h) e'
              rw [klt_irrefl] at this; cases this
          rw [gt1, hn]
          simp only
          refine ⟨fun h => by omega, fun _ => ?_⟩
          have q := cmpS_eq k1 k2
          rw [if_pos e'] at q
          rw [← hv, T.cmpM, q, if_neg (by omega)]
        · rw [if_neg e'] at hr
          have e'' : klt k2 k1 = true := klt_of_not (by simpa using e') e
          rw [hr] at hk'
          simp at hk'
          subst hk'
          have hn : getT l1 k2 = none := by
            rw [getT_none, a1]
            rintro (h | h | h)
            · rw [hs] at h
              have := b2 _ h
              rw [klt_irrefl] at this; cases this
            · exact e h.symm
            · have := klt_trans (c1 _ h) e''
              rw [klt_irrefl] at this; cases this
          rw [hn]
          simp only
          refine ⟨fun h => by omega, fun _ => ?_⟩
          have q := cmpS_eq k1 k2
          rw [if_neg e', if_neg e] at q
          rw [← hv, T.cmpM, q, if_neg (by omega)]
theorem CmpAt.end_ {l1 l2 : List (ByteArray × T)} (h : CmpAt l1 l2 (bothK l1 l2).length) : T.cmpM l1 l2 = 0 := by
  obtain ⟨h1, h2, hs, hr, hv⟩ := h
  rw [List.drop_length] at hr
  rw [← hv]
  generalize l1.drop (bothK l1 l2).length = d1 at *
  generalize l2.drop (bothK l1 l2).length = d2 at *
  have g : ∀ k, k ∉ d1.map Prod.fst ∧ k ∉ d2.map Prod.fst := by
    intro k
    have := mem_mergeK (d1.map Prod.fst) (d2.map Prod.fst) k
    rw [← hr] at this
    simp at this
    simpa using this
  cases d1 with
  | nil =>
    cases d2 with
    | nil => simp [T.cmpM]
    | cons p r => exact absurd (by simp) (g p.1).2
  | cons p r => exact absurd (by simp) (g p.1).1

end Go.Proofs.YtajeghkjppkhcaaGreat

/-!
  Plain: sorting by insertion.
-/

namespace Go.Proofs.YtajeghkjppkhcaaGreat

/-- the element at j is on its way down; without it the first i are in order -/
def InsInv (L : List ByteArray) (i j : Nat) : Prop := ∃ A x B C, L = A ++ x :: (B ++ C) ∧ SortK (A ++ B) ∧ (∀ b ∈ B, klt x b = true) ∧ A.length = j ∧ A.length + B.length = i

theorem ins_start {L : List ByteArray} {i : Nat} (h : SortK (L.take i)) (hi : i < L.length) : InsInv L i i :=
  ⟨L.take i, L[i], [], L.drop (i + 1), by rw [List.nil_append, ← List.drop_eq_getElem_cons hi, List.take_append_drop], by simpa using h, by simp, by simp; omega, by simp; omega⟩

theorem InsInv.lt {L : List ByteArray} {i j : Nat} (h : InsInv L i j) : j ≤ i ∧ i < L.length := by
  obtain ⟨A, x, B, C, rfl, _, _, h1, h2⟩ := h
  simp only [List.length_append, List.length_cons]
  omega

/-- one exchange -/
def swapL (L : List ByteArray) (j : Nat) (x y : ByteArray) : List ByteArray := (L.set j x).set (j - 1) y

theorem InsInv.step {L : List ByteArray} {i j : Nat} (h : InsInv L i j) (hj : 0 < j) (x y : ByteArray) (hx : L[j]? = some x) (hy : L[j - 1]? = some y) (hlt : klt x y = true) : InsInv (swapL L j y x) i (j - 1) ∧ (swapL L j y x).Perm L := by
  obtain ⟨A, u, B, C, rfl, hs, hb, h1, h2⟩ := h
  have hA : A ≠ [] := by rintro rfl; simp at h1; omega
  obtain ⟨A', v, rfl⟩ : ∃ A' v, A = A' ++ [v] := ⟨A.dropLast, A.getLast hA, (List.dropLast_concat_getLast hA).symm⟩
  simp only [List.length_append, List.length_cons, List.length_nil] at h1 h2
  have e1 : j - 1 = A'.length := by omega
  have e2 : j = (A' ++ [v]).length := by simp; omega
  have hu : u = x := by
    rw [e2, List.getElem?_append_right (Nat.le_refl _)] at hx
    simpa using hx
  have hv : v = y := by
    rw [e1, List.append_assoc, List.getElem?_append_right (Nat.le_refl _)] at hy
    simpa using hy
  subst hu; subst hv
  have e : swapL (A' ++ [v] ++ u :: (B ++ C)) j v u = A' ++ u :: (v :: B ++ C) := by
    unfold swapL
    rw [e1, e2, List.set_append_right _ _ (Nat.le_refl _)]
    simp only [Nat.sub_self, List.set_cons_zero, List.append_assoc, List.singleton_append]
    rw [List.set_append_right _ _ (Nat.le_refl _)]
    simp
  rw [e]
  refine ⟨⟨A', u, v :: B, C, rfl, by simpa using hs, ?_, by omega, by simp only [List.length_cons]; omega⟩, ?_⟩
  · intro b hb'
    rcases List.mem_cons.1 hb' with rfl | hb'
    · exact hlt
    · exact hb b hb'
  · simp only [List.append_assoc, List.cons_append, List.nil_append]
    exact List.Perm.append_left A' (List.Perm.swap _ _ _)

theorem InsInv.done_ {L : List ByteArray} {i j : Nat} (h : InsInv L i j) (hn : L.Nodup) (hd : j = 0 ∨ ∃ x y, L[j]? = some x ∧ L[j - 1]? = some y ∧ klt x y = false) : SortK (L.take (i + 1)) := by
  obtain ⟨A, u, B, C, rfl, hs, hb, h1, h2⟩ := h
  have e : (A ++ u :: (B ++ C)).take (i + 1) = A ++ u :: B := by
    have : A ++ u :: (B ++ C) = (A ++ u :: B) ++ C := by simp
    rw [this]
    exact List.take_left' (by simp; omega)
  rw [e]
  obtain ⟨q1, q2, q3⟩ := List.pairwise_append.1 hs
  have hAu : ∀ a ∈ A, klt a u = true := by
    rcases hd with rfl | ⟨x, y, hx, hy, hl⟩
    · have : A = [] := List.eq_nil_of_length_eq_zero h1
      subst this
      simp
    · by_cases hA : A = []
      · subst hA; simp
      · obtain ⟨A', v, rfl⟩ : ∃ A' v, A = A' ++ [v] := ⟨A.dropLast, A.getLast hA, (List.dropLast_concat_getLast hA).symm⟩
        simp only [List.length_append, List.length_cons, List.length_nil] at h1 h2
        have e1 : j - 1 = A'.length := by omega
        have e2 : j = (A' ++ [v]).length := by simp; omega
        have hu : u = x := by
          rw [e2, List.getElem?_append_right (Nat.le_refl _)] at hx
          simpa using hx
        have hv : v = y := by
          rw [e1, List.append_assoc, List.getElem?_append_right (Nat.le_refl _)] at hy
          simpa using hy
        subst hu; subst hv
        have hne : u ≠ v := by
          rintro rfl
          have := (List.nodup_append.1 hn).2.2 u (by simp) u (by simp)
          exact this rfl
        have hvu : klt v u = true := klt_of_not hl hne
        intro a ha
        rcases List.mem_append.1 ha with ha | ha
        · exact klt_trans ((List.pairwise_append.1 q1).2.2 a ha v (by simp)) hvu
        · simp at ha; subst ha; exact hvu
  refine List.pairwise_append.2 ⟨q1, List.pairwise_cons.2 ⟨hb, q2⟩, ?_⟩
  intro a ha b hb'
  rcases List.mem_cons.1 hb' with rfl | hb'
  · exact hAu a ha
  · exact q3 a ha b hb'

end Go.Proofs.YtajeghkjppkhcaaGreat

/-!
  Plain: equality of two maps, key by key.
-/

namespace Go.Proofs.YtajeghkjppkhcaaGreat

end Go.Proofs.YtajeghkjppkhcaaGreat
