/-
  Plain definitions and lemmas, no program in sight: trees of values, their raw form as the program's struct, keys in order, insertion of a field.
-/
import Derived.WalkKit
import Derived.WideShapes
import Derived.Lib.Strings
namespace Go.Proofs.Ytekaainjpddklaa

theorem less_lt (x : List UInt8) : ∀ y : List UInt8, Op.bytesLess x y = decide (x < y) := by
  induction x with
  | nil => intro y; cases y <;> simp [Op.bytesLess]
  | cons a x ih =>
    intro y
    cases y with
    | nil => simp [Op.bytesLess]
    | cons b y =>
      rw [Op.bytesLess, ih y]
      simp only [List.cons_lt_cons_iff]
      by_cases h1 : a < b <;> by_cases h2 : a = b <;> by_cases h3 : x < y <;> simp [h1, h2, h3]

/-- Go's '<' on strings. -/
def klt (a b : ByteArray) : Bool := Op.bytesLess a.toList b.toList

theorem klt_iff (a b : ByteArray) : klt a b = true ↔ a.data.toList < b.data.toList := by
  unfold klt
  rw [less_lt, Lib.toList_data, Lib.toList_data, decide_eq_true_iff]
theorem bytes_ext {a b : ByteArray} (h : a.data.toList = b.data.toList) : a = b := Go.WideShapes.bytes_inj h
theorem u8lt_irrefl (a : UInt8) : ¬ a < a := by simp
theorem klt_irrefl (a : ByteArray) : klt a a = false := by
  rw [Bool.eq_false_iff]; intro h
  exact List.lt_irrefl _ ((klt_iff a a).1 h)
theorem klt_trans {a b c : ByteArray} (h : klt a b = true) (h' : klt b c = true) : klt a c = true :=
  (klt_iff a c).2 (List.lt_trans ((klt_iff a b).1 h) ((klt_iff b c).1 h'))
theorem klt_asymm {a b : ByteArray} (h : klt a b = true) : klt b a = false := by
  rw [Bool.eq_false_iff]; intro h'
  have := klt_trans h h'
  rw [klt_irrefl] at this; cases this
theorem klt_ne {a b : ByteArray} (h : klt a b = true) : a ≠ b := by
  rintro rfl; rw [klt_irrefl] at h; cases h
theorem klt_total (a b : ByteArray) : a = b ∨ klt a b = true ∨ klt b a = true := by
  by_cases h : klt a b = true
  · exact .inr (.inl h)
  · by_cases h' : klt b a = true
    · exact .inr (.inr h')
    · left
      rw [klt_iff] at h h'
      exact bytes_ext (List.le_antisymm (List.not_lt.1 h') (List.not_lt.1 h))
theorem klt_of_not {a b : ByteArray} (h : klt a b = false) (hne : a ≠ b) : klt b a = true := by
  rcases klt_total a b with h1 | h1 | h1
  · exact absurd h1 hne
  · rw [h] at h1; cases h1
  · exact h1

/-- a value, as the package sees it -/
inductive T where
  | null
  | bool (b : Bool)
  | int (n : Int)
  | flt (f : Nat)
  | str (s : ByteArray)
  | list (l : List T)
  | map (l : List (ByteArray × T))

/-- a value, as the thin package's struct holds it -/
inductive RV where
  | mk (kind n : Int) (f : Nat) (s : ByteArray) (keys : List ByteArray) (l : List RV)

/-- the entry (k, v) laid into a list of entries in order -/
def ins {α : Type} (k : ByteArray) (v : α) : List (ByteArray × α) → List (ByteArray × α)
  | [] => [(k, v)]
  | p :: r => if klt p.1 k then p :: ins k v r else if p.1 = k then (k, v) :: r else (k, v) :: p :: r

/-- how many keys stand before k -/
def cnt {α : Type} (k : ByteArray) : List (ByteArray × α) → Nat
  | [] => 0
  | p :: r => if klt p.1 k then cnt k r + 1 else 0

def Sorted {α : Type} (l : List (ByteArray × α)) : Prop := l.Pairwise fun p q => klt p.1 q.1 = true

section
variable {α β : Type}

theorem cnt_le (k : ByteArray) (l : List (ByteArray × α)) : cnt k l ≤ l.length := by
  induction l with
  | nil => simp [cnt]
  | cons p r ih => simp only [cnt, List.length_cons]; split <;> omega
theorem ins_eq (k : ByteArray) (v : α) (l : List (ByteArray × α)) :
    ins k v l = l.take (cnt k l) ++ (k, v) :: l.drop (if (l[cnt k l]?).map Prod.fst = some k then cnt k l + 1 else cnt k l) := by
  induction l with
  | nil => simp [ins, cnt]
  | cons p r ih =>
    simp only [ins, cnt]
    by_cases h : klt p.1 k = true
    · simp only [h, if_true, List.take_succ_cons, List.cons_append, List.getElem?_cons_succ]
      rw [ih]
      congr 2
      by_cases h2 : (r[cnt k r]?).map Prod.fst = some k
      · simp [h2]
      · simp [h2]
    · simp only [h, Bool.false_eq_true, if_false, List.take_zero, List.nil_append, List.getElem?_cons_zero, Option.map_some, Option.some.injEq]
      by_cases h2 : p.1 = k <;> simp [h2]
theorem mem_ins {k : ByteArray} {v : α} {l : List (ByteArray × α)} {p : ByteArray × α} (h : p ∈ ins k v l) : p = (k, v) ∨ p ∈ l := by
  induction l with
  | nil => simp [ins] at h; exact .inl h
  | cons q r ih =>
    simp only [ins] at h
    split at h
    · rcases List.mem_cons.1 h with h | h
      · exact .inr (by simp [h])
      · rcases ih h with h | h
        · exact .inl h
        · exact .inr (by simp [h])
    · split at h
      · rcases List.mem_cons.1 h with h | h
        · exact .inl h
        · exact .inr (by simp [h])
      · rcases List.mem_cons.1 h with h | h
        · exact .inl h
        · exact .inr h
theorem mem_ins_iff {k : ByteArray} {v : α} {l : List (ByteArray × α)} (hs : Sorted l) (p : ByteArray × α) : p ∈ ins k v l ↔ p = (k, v) ∨ (p ∈ l ∧ p.1 ≠ k) := by
  induction l with
  | nil => simp [ins]
  | cons q r ih =>
    obtain ⟨h1, h2⟩ := List.pairwise_cons.1 hs
    simp only [ins]
    by_cases h : klt q.1 k = true
    · simp only [h, if_true, List.mem_cons, ih h2]
      constructor
      · rintro (rfl | h3 | ⟨h3, h4⟩)
        · exact .inr ⟨.inl rfl, klt_ne h⟩
        · exact .inl h3
        · exact .inr ⟨.inr h3, h4⟩
      · rintro (h3 | ⟨h3 | h3, h4⟩)
        · exact .inr (.inl h3)
        · exact .inl h3
        · exact .inr (.inr ⟨h3, h4⟩)
    · by_cases h3 : q.1 = k
      · rw [if_neg h, if_pos h3]
        simp only [List.mem_cons]
        constructor
        · rintro (h4 | h4)
          · exact .inl h4
          · exact .inr ⟨.inr h4, fun e => klt_ne (h1 p h4) (h3.trans e.symm)⟩
        · rintro (h4 | ⟨rfl | h4, h5⟩)
          · exact .inl h4
          · exact absurd h3 h5
          · exact .inr h4
      · simp only [h, h3, Bool.false_eq_true, if_false, List.mem_cons]
        have hk : klt k q.1 = true := klt_of_not (by simpa using h) h3
        constructor
        · rintro (h4 | rfl | h4)
          · exact .inl h4
          · exact .inr ⟨.inl rfl, h3⟩
          · exact .inr ⟨.inr h4, fun e => by have := klt_trans hk (h1 p h4); rw [e, klt_irrefl] at this; cases this⟩
        · rintro (h4 | ⟨h4, _⟩)
          · exact .inl h4
          · exact .inr h4
theorem ins_sorted {k : ByteArray} {v : α} {l : List (ByteArray × α)} (hs : Sorted l) : Sorted (ins k v l) := by
  induction l with
  | nil => simp [ins, Sorted]
  | cons q r ih =>
    obtain ⟨h1, h2⟩ := List.pairwise_cons.1 hs
    simp only [ins]
    by_cases h : klt q.1 k = true
    · simp only [h, if_true]
      refine List.pairwise_cons.2 ⟨fun p hp => ?_, ih h2⟩
      rcases mem_ins hp with rfl | hp
      · exact h
      · exact h1 p hp
    · by_cases h3 : q.1 = k
      · rw [if_neg h, if_pos h3]
        exact List.pairwise_cons.2 ⟨fun p hp => by have := h1 p hp; rwa [h3] at this, h2⟩
      · simp only [h, h3, Bool.false_eq_true, if_false]
        have hk : klt k q.1 = true := klt_of_not (by simpa using h) h3
        refine List.pairwise_cons.2 ⟨fun p hp => ?_, hs⟩
        rcases List.mem_cons.1 hp with rfl | hp
        · exact hk
        · exact klt_trans hk (h1 p hp)
theorem ins_length (k : ByteArray) (v : α) (l : List (ByteArray × α)) : (ins k v l).length ≤ l.length + 1 := by
  induction l with
  | nil => simp [ins]
  | cons q r ih => simp only [ins]; split <;> (try split) <;> simp_all
theorem ins_map (f : α → β) (k : ByteArray) (v : α) (l : List (ByteArray × α)) : (ins k v l).map (fun p => (p.1, f p.2)) = ins k (f v) (l.map fun p => (p.1, f p.2)) := by
  induction l with
  | nil => simp [ins]
  | cons q r ih => simp only [ins, List.map_cons]; split <;> (try split) <;> simp_all
theorem sorted_nodup {l : List (ByteArray × α)} (h : Sorted l) : (l.map Prod.fst).Nodup := by
  unfold List.Nodup
  rw [List.pairwise_map]
  exact h.imp fun h => klt_ne h
theorem keys_ins {k : ByteArray} {v : α} {l : List (ByteArray × α)} (hs : Sorted l) (x : ByteArray) : x ∈ (ins k v l).map Prod.fst ↔ x = k ∨ x ∈ l.map Prod.fst := by
  simp only [List.mem_map]
  constructor
  · rintro ⟨p, hp, rfl⟩
    rcases (mem_ins_iff hs p).1 hp with rfl | ⟨hp, _⟩
    · exact .inl rfl
    · exact .inr ⟨p, hp, rfl⟩
  · rintro (rfl | ⟨p, hp, rfl⟩)
    · exact ⟨(x, v), (mem_ins_iff hs _).2 (.inl rfl), rfl⟩
    · by_cases e : p.1 = k
      · exact ⟨(k, v), (mem_ins_iff hs _).2 (.inl rfl), e.symm⟩
      · exact ⟨p, (mem_ins_iff hs _).2 (.inr ⟨hp, e⟩), rfl⟩
theorem cnt_lt {k : ByteArray} {l : List (ByteArray × α)} (hs : Sorted l) : ∀ (i : Nat) (h : i < l.length), klt (l[i]).1 k = true ↔ i < cnt k l := by
  induction l with
  | nil => intro i h; simp at h
  | cons p r ih =>
    obtain ⟨h1, h2⟩ := List.pairwise_cons.1 hs
    intro i h
    simp only [cnt]
    cases i with
    | zero => simp only [List.getElem_cons_zero]; split <;> rename_i hp <;> simp [hp]
    | succ i =>
      simp only [List.getElem_cons_succ]
      have hi : i < r.length := by simpa using h
      split
      · rename_i hp
        rw [ih h2 i hi]; omega
      · rename_i hp
        constructor
        · intro hk
          exact absurd (klt_trans (h1 _ (List.getElem_mem hi)) hk) hp
        · intro h; omega
/-- the map that a list of keys with a list of values makes: of equal keys the last one counts -/
def mapOf (keys : List ByteArray) (l : List α) : List (ByteArray × α) := (keys.zip l).foldl (fun m p => ins p.1 p.2 m) []
theorem foldl_ins_sorted (l : List (ByteArray × α)) : ∀ m, Sorted m → Sorted (l.foldl (fun m p => ins p.1 p.2 m) m) := by
  induction l with
  | nil => intro m h; exact h
  | cons p r ih => intro m h; exact ih _ (ins_sorted h)
theorem foldl_ins_keys (l : List (ByteArray × α)) : ∀ m p, p ∈ l.foldl (fun m p => ins p.1 p.2 m) m → p ∈ m ∨ p ∈ l := by
  induction l with
  | nil => intro m p h; exact .inl h
  | cons q r ih =>
    intro m p h
    rcases ih _ _ h with h | h
    · rcases mem_ins h with h | h
      · exact .inr (by rw [h]; simp)
      · exact .inl h
    · exact .inr (by simp [h])
theorem mapOf_keys (keys : List ByteArray) (l : List α) (p : ByteArray × α) (h : p ∈ mapOf keys l) : p.1 ∈ keys := by
  rcases foldl_ins_keys _ _ _ h with h | h
  · cases h
  · exact (List.of_mem_zip h).1
theorem mapOf_sorted (keys : List ByteArray) (l : List α) : Sorted (mapOf keys l) := foldl_ins_sorted _ _ List.Pairwise.nil
theorem foldl_ins_length (l : List (ByteArray × α)) : ∀ m, (l.foldl (fun m p => ins p.1 p.2 m) m).length ≤ m.length + l.length := by
  induction l with
  | nil => intro m; simp
  | cons p r ih => intro m; have h1 := ih (ins p.1 p.2 m); have h2 := ins_length p.1 p.2 m; simp only [List.foldl_cons, List.length_cons]; omega
theorem mapOf_take_length (keys : List ByteArray) (l : List α) (k : Nat) : (mapOf (keys.take k) (l.take k)).length ≤ k := by
  have := foldl_ins_length ((keys.take k).zip (l.take k)) []
  simp only [List.length_nil, List.length_zip, List.length_take] at this
  unfold mapOf
  omega
theorem zip_take (k : Nat) : ∀ (a : List α) (b : List β), (a.take k).zip (b.take k) = (a.zip b).take k := by
  induction k with
  | zero => intro a b; simp
  | succ k ih => intro a b; cases a <;> cases b <;> simp [ih]
theorem mapOf_take_succ (keys : List ByteArray) (l : List α) (k : Nat) (hk : k < keys.length) (hl : k < l.length) :
    mapOf (keys.take (k + 1)) (l.take (k + 1)) = ins keys[k] l[k] (mapOf (keys.take k) (l.take k)) := by
  unfold mapOf
  rw [zip_take, zip_take, List.take_succ_eq_append_getElem (by simp; omega), List.foldl_append]
  simp
theorem mapOf_take_all (keys : List ByteArray) (l : List α) (k : Nat) (h : keys.length ≤ k ∨ l.length ≤ k) : mapOf (keys.take k) (l.take k) = mapOf keys l := by
  unfold mapOf
  rw [zip_take, List.take_of_length_le (by simp; omega)]
end

noncomputable def RV.rank (r : RV) : Nat := SizeOf.sizeOf r
theorem RV.rank_lt {kind n : Int} {f : Nat} {s : ByteArray} {keys : List ByteArray} {l : List RV} {r : RV} (h : r ∈ l) : r.rank < (RV.mk kind n f s keys l).rank := by
  have h1 := List.sizeOf_lt_of_mem h
  unfold RV.rank
  simp only [RV.mk.sizeOf_spec]
  omega
noncomputable def T.rank (t : T) : Nat := SizeOf.sizeOf t
theorem T.rank_list {l : List T} {t : T} (h : t ∈ l) : t.rank < (T.list l).rank := by
  have h1 := List.sizeOf_lt_of_mem h
  unfold T.rank
  simp only [T.list.sizeOf_spec]
  omega
theorem T.rank_map {l : List (ByteArray × T)} {k : ByteArray} {t : T} (h : (k, t) ∈ l) : t.rank < (T.map l).rank := by
  have h1 := List.sizeOf_lt_of_mem h
  unfold T.rank
  simp only [T.map.sizeOf_spec, Prod.mk.sizeOf_spec] at *
  omega

mutual
def RV.tree : RV → T
  | .mk kind n f s keys l =>
    if kind = 1 then .bool (n != 0)
    else if kind = 2 then .int n
    else if kind = 3 then .flt f
    else if kind = 4 then .str s
    else if kind = 5 then .list (RV.treeL l)
    else if kind = 6 then .map (mapOf keys (RV.treeL l))
    else .null
def RV.treeL : List RV → List T
  | [] => []
  | r :: rs => r.tree :: RV.treeL rs
end
theorem treeL_eq (l : List RV) : RV.treeL l = l.map RV.tree := by
  induction l with
  | nil => simp [RV.treeL]
  | cons r rs ih => simp [RV.treeL, ih]

/-- the fields of a value, whatever its kind says -/
def RV.fieldsOf : RV → T
  | .mk _ _ _ _ keys l => .map (mapOf keys (l.map RV.tree))

mutual
/-- the plain form of a tree -/
def T.toRV : T → RV
  | .null => .mk 0 0 0 ByteArray.empty [] []
  | .bool b => .mk 1 (if b then 1 else 0) 0 ByteArray.empty [] []
  | .int n => .mk 2 n 0 ByteArray.empty [] []
  | .flt f => .mk 3 0 f ByteArray.empty [] []
  | .str s => .mk 4 0 0 s [] []
  | .list l => .mk 5 0 0 ByteArray.empty [] (T.toRVL l)
  | .map l => .mk 6 0 0 ByteArray.empty (l.map Prod.fst) (T.toRVM l)
def T.toRVL : List T → List RV
  | [] => []
  | t :: r => t.toRV :: T.toRVL r
def T.toRVM : List (ByteArray × T) → List RV
  | [] => []
  | (_, t) :: r => t.toRV :: T.toRVM r
end
theorem toRVL_eq (l : List T) : T.toRVL l = l.map T.toRV := by
  induction l with
  | nil => simp [T.toRVL]
  | cons r rs ih => simp [T.toRVL, ih]
theorem toRVM_eq (l : List (ByteArray × T)) : T.toRVM l = l.map fun p => p.2.toRV := by
  induction l with
  | nil => simp [T.toRVM]
  | cons r rs ih => obtain ⟨k, t⟩ := r; simp [T.toRVM, ih]

end Go.Proofs.Ytekaainjpddklaa
