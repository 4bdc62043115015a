/- Parts: Base, Order. -/
import Derived.Test.YtbicoknghdgahaaGreatKA02
set_option linter.unusedVariables false
set_option linter.unusedSimpArgs false
namespace Go.Proofs.YtbicoknghdgahaaGreat

section
variable {α β : Type}

theorem cnt_le (k : ByteArray) (l : List (ByteArray × α)) : cnt k l ≤ l.length := by
 induction l with
 | nil => simp [cnt]
 | cons p r ih => simp only [cnt, List.length_cons]; split <;> omega
theorem ins_eq (k : ByteArray) (v : α) (l : List (ByteArray × α)) :
  ins k v l = l.take (cnt k l) ++ (k, v) :: l.drop (if (l[cnt k l]?).map Prod.fst = some k then cnt k l + 1 else cnt k l) := by
 induction l with
 | nil => simp [ins, cnt]
 | cons p r ih =>
  simp only [ins, cnt]
  by_cases h : klt p.1 k = true
  ·simp only [h, if_true, List.take_succ_cons, List.cons_append, List.getElem?_cons_succ]
   rw [ih]
   congr 2
   by_cases h2 : (r[cnt k r]?).map Prod.fst = some k
   ·simp [h2]
   ·simp [h2]
  ·simp only [h, Bool.false_eq_true, if_false, List.take_zero, List.nil_append, List.getElem?_cons_zero, Option.map_some, Option.some.injEq]
   by_cases h2 : p.1 = k <;> simp [h2]
theorem mem_ins {k : ByteArray} {v : α} {l : List (ByteArray × α)} {p : ByteArray × α} (h : p ∈ ins k v l) : p = (k, v) ∨ p ∈ l := by
 induction l with
 | nil => simp [ins] at h; exact .inl h
 | cons q r ih =>
  simp only [ins] at h
  split at h
  ·rcases List.mem_cons.1 h with h | h
   ·exact .inr (by simp [h])
   ·rcases ih h with h | h
    ·exact .inl h
    ·exact .inr (by simp [h])
  ·split at h
   ·rcases List.mem_cons.1 h with h | h
    ·exact .inl h
    ·exact .inr (by simp [h])
   ·rcases List.mem_cons.1 h with h | h
    ·exact .inl h
    ·exact .inr h
theorem mem_ins_iff {k : ByteArray} {v : α} {l : List (ByteArray × α)} (hs : Sorted l) (p : ByteArray × α) : p ∈ ins k v l ↔ p = (k, v) ∨ (p ∈ l ∧ p.1 ≠ k) := by
 induction l with
 | nil => simp [ins]
 | cons q r ih =>
  obtain ⟨h1, h2⟩ := List.pairwise_cons.1 hs
  simp only [ins]
  by_cases h : klt q.1 k = true
  ·simp only [h, if_true, List.mem_cons, ih h2]
   constructor
   ·rintro (rfl | h3 | ⟨h3, h4⟩)
    ·exact .inr ⟨.inl rfl, klt_ne h⟩
    ·exact .inl h3
    ·exact .inr ⟨.inr h3, h4⟩
   ·rintro (h3 | ⟨h3 | h3, h4⟩)
    ·exact .inr (.inl h3)
    ·exact .inl h3
    ·exact .inr (.inr ⟨h3, h4⟩)
  ·by_cases h3 : q.1 = k
   ·rw [if_neg h, if_pos h3]
    simp only [List.mem_cons]
    constructor
    ·rintro (h4 | h4)
     ·exact .inl h4
     ·exact .inr ⟨.inr h4, fun e => klt_ne (h1 p h4) (h3.trans e.symm)⟩
    ·rintro (h4 | ⟨rfl | h4, h5⟩)
     ·exact .inl h4
     ·exact absurd h3 h5
     ·exact .inr h4
   ·simp only [h, h3, Bool.false_eq_true, if_false, List.mem_cons]
    have hk : klt k q.1 = true := klt_of_not (by simpa using h) h3
    constructor
    ·rintro (h4 | rfl | h4)
     ·exact .inl h4
     ·exact .inr ⟨.inl rfl, h3⟩
     ·exact .inr ⟨.inr h4, fun e => by have := klt_trans hk (h1 p h4); rw [e, klt_irrefl] at this; cases this⟩
    ·rintro (h4 | ⟨h4, _⟩)
     ·exact .inl h4
     ·exact .inr h4
theorem ins_sorted {k : ByteArray} {v : α} {l : List (ByteArray × α)} (hs : Sorted l) : Sorted (ins k v l) := by
 induction l with
 | nil => simp [ins, Sorted]
 | cons q r ih =>
  obtain ⟨h1, h2⟩ := List.pairwise_cons.1 hs
  simp only [ins]
  by_cases h : klt q.1 k = true
  ·simp only [h, if_true]
   refine List.pairwise_cons.2 ⟨fun p hp => ?_, ih h2⟩
   rcases mem_ins hp with rfl | hp
   ·exact h
   ·exact h1 p hp
  ·by_cases h3 : q.1 = k
   ·rw [if_neg h, if_pos h3]
    exact List.pairwise_cons.2 ⟨fun p hp => by have := h1 p hp; rwa [h3] at this, h2⟩
   ·simp only [h, h3, Bool.false_eq_true, if_false]
    have hk : klt k q.1 = true := klt_of_not (by simpa using h) h3
    refine List.pairwise_cons.2 ⟨fun p hp => ?_, hs⟩
    rcases List.mem_cons.1 hp with rfl | hp
    ·exact hk
    ·exact klt_trans hk (h1 p hp)
theorem ins_length (k : ByteArray) (v : α) (l : List (ByteArray × α)) : (ins k v l).length ≤ l.length + 1 := by
 induction l with
 | nil => simp [ins]
 | cons q r ih => simp only [ins]; split <;> (try split) <;> simp_all
theorem ins_map (f : α → β) (k : ByteArray) (v : α) (l : List (ByteArray × α)) : (ins k v l).map (fun p => (p.1, f p.2)) = ins k (f v) (l.map fun p => (p.1, f p.2)) := by
 induction l with
 | nil => simp [ins]
 | cons q r ih => simp only [ins, List.map_cons]; split <;> (try split) <;> simp_all
theorem keys_ins {k : ByteArray} {v : α} {l : List (ByteArray × α)} (hs : Sorted l) (x : ByteArray) : x ∈ (ins k v l).map Prod.fst ↔ x = k ∨ x ∈ l.map Prod.fst := by
 simp only [List.mem_map]
 constructor
 ·rintro ⟨p, hp, rfl⟩
  rcases (mem_ins_iff hs p).1 hp with rfl | ⟨hp, _⟩
  ·exact .inl rfl
  ·exact .inr ⟨p, hp, rfl⟩
 ·rintro (rfl | ⟨p, hp, rfl⟩)
  ·exact ⟨(x, v), (mem_ins_iff hs _).2 (.inl rfl), rfl⟩
  ·by_cases e : p.1 = k
   ·exact ⟨(k, v), (mem_ins_iff hs _).2 (.inl rfl), e.symm⟩
   ·exact ⟨p, (mem_ins_iff hs _).2 (.inr ⟨hp, e⟩), rfl⟩
theorem cnt_lt {k : ByteArray} {l : List (ByteArray × α)} (hs : Sorted l) : ∀ (i : Nat) (h : i < l.length), klt (l[i]).1 k = true ↔ i < cnt k l := by
 induction l with
 | nil => intro i h; simp at h
 | cons p r ih =>
  obtain ⟨h1, h2⟩ := List.pairwise_cons.1 hs
  intro i h
  simp only [cnt]
  cases i with
  | zero => simp only [List.getElem_cons_zero]; split <;> rename_i hp <;> simp [hp]
  | succ i =>
   simp only [List.getElem_cons_succ]
   have hi : i < r.length := by simpa using h
   split
   ·rename_i hp
    rw [ih h2 i hi]; omega
   ·rename_i hp
    constructor
    ·intro hk
     exact absurd (klt_trans (h1 _ (List.getElem_mem hi)) hk) hp
    ·intro h; omega
theorem foldl_ins_sorted (l : List (ByteArray × α)) : ∀ m, Sorted m → Sorted (l.foldl (fun m p => ins p.1 p.2 m) m) := by
 induction l with
 | nil => intro m h; exact h
 | cons p r ih => intro m h; exact ih _ (ins_sorted h)
theorem foldl_ins_keys (l : List (ByteArray × α)) : ∀ m p, p ∈ l.foldl (fun m p => ins p.1 p.2 m) m → p ∈ m ∨ p ∈ l := by
 induction l with
 | nil => intro m p h; exact .inl h
 | cons q r ih =>
  intro m p h
  rcases ih _ _ h with h | h
  ·rcases mem_ins h with h | h
   ·exact .inr (by rw [h]; simp)
   ·exact .inl h
  ·exact .inr (by simp [h])
theorem mapOf_keys (keys : List ByteArray) (l : List α) (p : ByteArray × α) (h : p ∈ mapOf keys l) : p.1 ∈ keys := by
 rcases foldl_ins_keys _ _ _ h with h | h
 ·cases h
 ·exact (List.of_mem_zip h).1
theorem mapOf_sorted (keys : List ByteArray) (l : List α) : Sorted (mapOf keys l) := foldl_ins_sorted _ _ List.Pairwise.nil
theorem foldl_ins_length (l : List (ByteArray × α)) : ∀ m, (l.foldl (fun m p => ins p.1 p.2 m) m).length ≤ m.length + l.length := by
 induction l with
 | nil => intro m; simp
 | cons p r ih => intro m; have h1 := ih (ins p.1 p.2 m); have h2 := ins_length p.1 p.2 m; simp only [List.foldl_cons, List.length_cons]; omega
theorem mapOf_take_length (keys : List ByteArray) (l : List α) (k : Nat) : (mapOf (keys.take k) (l.take k)).length ≤ k := by
 have := foldl_ins_length ((keys.take k).zip (l.take k)) []
 simp only [List.length_nil, List.length_zip, List.length_take] at this
 unfold mapOf
 omega
theorem zip_take (k : Nat) : ∀ (a : List α) (b : List β), (a.take k).zip (b.take k) = (a.zip b).take k := by
 induction k with
 | zero => intro a b; simp
 | succ k ih => intro a b; cases a <;> cases b <;> simp [ih]
theorem mapOf_take_succ (keys : List ByteArray) (l : List α) (k : Nat) (hk : k < keys.length) (hl : k < l.length) :
  mapOf (keys.take (k + 1)) (l.take (k + 1)) = ins keys[k] l[k] (mapOf (keys.take k) (l.take k)) := by
 unfold mapOf
 rw [zip_take, zip_take, List.take_succ_eq_append_getElem (by simp; omega), List.foldl_append]
 simp
theorem mapOf_take_all (keys : List ByteArray) (l : List α) (k : Nat) (h : keys.length ≤ k ∨ l.length ≤ k) : mapOf (keys.take k) (l.take k) = mapOf keys l := by
 unfold mapOf
 rw [zip_take, List.take_of_length_le (by simp; omega)]
end

theorem RV.rank_lt {kind n : Int} {f : Nat} {s : ByteArray} {keys : List ByteArray} {l : List RV} {r : RV} (h : r ∈ l) : r.rank < (RV.mk kind n f s keys l).rank := by
 have h1 := List.sizeOf_lt_of_mem h
 unfold RV.rank
 simp only [RV.mk.sizeOf_spec]
 omega
theorem treeL_eq (l : List RV) : RV.treeL l = l.map RV.tree := by
 induction l with
 | nil => simp [RV.treeL]
 | cons r rs ih => simp [RV.treeL, ih]

def RV.fieldsOf : RV → T
 | .mk _ _ _ _ keys l => .map (mapOf keys (l.map RV.tree))

mutual
def T.toRV : T → RV
 | .null => .mk 0 0 0 ByteArray.empty [] []
 | .bool b => .mk 1 (if b then 1 else 0) 0 ByteArray.empty [] []
 | .int n => .mk 2 n 0 ByteArray.empty [] []
 | .flt f => .mk 3 0 f ByteArray.empty [] []
 | .str s => .mk 4 0 0 s [] []
 | .list l => .mk 5 0 0 ByteArray.empty [] (T.toRVL l)
 | .map l => .mk 6 0 0 ByteArray.empty (l.map Prod.fst) (T.toRVM l)
def T.toRVL : List T → List RV
 | [] => []
 | t :: r => t.toRV :: T.toRVL r
def T.toRVM : List (ByteArray × T) → List RV
 | [] => []
 | (_, t) :: r => t.toRV :: T.toRVM r
end
theorem toRVL_eq (l : List T) : T.toRVL l = l.map T.toRV := by
 induction l with
 | nil => simp [T.toRVL]
 | cons r rs ih => simp [T.toRVL, ih]
theorem toRVM_eq (l : List (ByteArray × T)) : T.toRVM l = l.map fun p => p.2.toRV := by
 induction l with
 | nil => simp [T.toRVM]
 | cons r rs ih => obtain ⟨k, t⟩ := r; simp [T.toRVM, ih]

end Go.Proofs.YtbicoknghdgahaaGreat

namespace Go.Proofs.YtbicoknghdgahaaGreat
open Go.RowKit Go.MapKept Go.ChangeMaps

section
variable {P : Program} {w w' : World} {r : Nat} {ks : List ByteArray} {val : ByteArray → Value} {t kt et : TypeId}

theorem setBlock_grown {o : Obj} {es : Array MapEntry} {clock : Nat} (hb : w.heap[r]? = some (.map es clock)) : w.grownBy (setBlock w r o) (some r) :=
 ⟨rfl, rfl, rfl, by simp [setBlock], fun i _ hi => heap_setBlock_other hb _ (fun e => hi (by rw [e]))⟩

theorem MapIs.update (h : MapIs w r ks val) (ht : P.underlying t = some (.map kt et)) (hk : P.underlying kt = some .string) (k : ByteArray) (u : Value) (ks' : List ByteArray) (hn : ks'.Nodup) (hm : ∀ x, x ∈ ks' ↔ x = k ∨ x ∈ ks) :
  ∃ w', (Instr.mapUpdate t (.map (some r)) (.string k) u).run P w = .ok () w' ∧ MapIs w' r ks' (fun x => if x = k then u else val x) ∧ w.grownBy w' (some r) ∧ w'.heap.size = w.heap.size := by
 obtain ⟨es, clock, hb, hs, _, h1, h2⟩ := h.ex
 have hkk : IsKey .string (.string k) := trivial
 rcases find_str hs h1 h2 k with ⟨hin, j, e, q1, q2, q3⟩ | ⟨hout, q1, q2⟩
 ·have hj : es[j]? = some e := by simpa using q2
  refine ⟨setBlock w r (.map (es.modify j fun e => { e with key := .string k, val := u }) clock), ?_, ⟨_, _, heap_setBlock_same hb _, ?_, hn, ?_, ?_⟩, setBlock_grown hb, by simp [setBlock]⟩
  ·simp [Instr.mapUpdate, run_underlying ht, MapKept.run_getObj_map hb, run_checkKey hk hkk, run_findKey hk q1, hj, q3, run_keyThatStays hkk, MapKept.run_setObj_map _ hb, Result.andThen, setBlock]
  ·exact stamped_modify hs _ _ (fun _ _ => rfl) (fun e' _ he' => by rw [hj] at he'; cases he'; exact q3.symm)
  ·intro x hx
   obtain ⟨i, hi⟩ := List.getElem?_of_mem hx
   rw [Array.getElem?_toList, Array.getElem?_modify] at hi
   by_cases hij : j = i
   ·subst hij
    rw [if_pos rfl, hj] at hi
    simp only [Option.map_some, Option.some.injEq] at hi
    subst hi
    exact ⟨k, rfl, (hm k).2 (.inl rfl), by simp⟩
   ·rw [if_neg hij] at hi
    have hxm : x ∈ es.toList := List.mem_of_getElem? (by simpa using hi)
    obtain ⟨k', hk', hin', hv⟩ := h1 x hxm
    have hne : k' ≠ k := by
     rintro rfl
     have hbx := entry_eq_of_keys hs hxm (List.mem_of_getElem? q2) (hk'.trans q3.symm)
     have hst := ((stamped_iff es clock).1 hs).2.1
     subst hbx
     have h3 : (es.toList.map (·.born))[i]? = (es.toList.map (·.born))[j]? := by
      rw [List.getElem?_map, List.getElem?_map, q2]
      have : es.toList[i]? = some x := by simpa using hi
      rw [this]
     have hil : i < (es.toList.map (·.born)).length := by
      have := (Array.getElem?_eq_some_iff.1 hi).1
      simpa using this
     exact hij ((List.getElem?_inj hil hst).1 h3).symm
    exact ⟨k', hk', (hm k').2 (.inr hin'), by rw [hv, if_neg hne]⟩
  ·intro x hx
   rcases (hm x).1 hx with rfl | hx
   ·refine ⟨{ e with key := .string x, val := u }, ?_, rfl⟩
    refine List.mem_of_getElem? (i := j) ?_
    rw [Array.getElem?_toList, Array.getElem?_modify, if_pos rfl, hj]
    rfl
   ·obtain ⟨e', he', hk'⟩ := h2 x hx
    obtain ⟨i, hi⟩ := List.getElem?_of_mem he'
    by_cases hij : j = i
    ·subst hij
     rw [q2] at hi
     cases hi
     refine ⟨{ e with key := .string k, val := u }, ?_, by rw [← hk', q3]⟩
     refine List.mem_of_getElem? (i := j) ?_
     rw [Array.getElem?_toList, Array.getElem?_modify, if_pos rfl, hj]
     rfl
    ·refine ⟨e', ?_, hk'⟩
     refine List.mem_of_getElem? (i := i) ?_
     rw [Array.getElem?_toList, Array.getElem?_modify, if_neg hij]
     simpa using hi
 ·refine ⟨setBlock w r (.map (es.push { key := .string k, val := u, born := clock }) (clock + 1)), ?_, ⟨_, _, heap_setBlock_same hb _, stamped_push hs q2, hn, ?_, ?_⟩, setBlock_grown hb, by simp [setBlock]⟩
  ·simp [Instr.mapUpdate, run_underlying ht, MapKept.run_getObj_map hb, run_checkKey hk hkk, run_findKey hk q1, MapKept.run_setObj_map _ hb, Result.andThen, setBlock]
  ·intro x hx
   simp only [Array.toList_push, List.mem_append, List.mem_singleton] at hx
   rcases hx with hx | rfl
   ·obtain ⟨k', hk', hin', hv⟩ := h1 x hx
    have hne : k' ≠ k := fun e => hout (e ▸ hin')
    exact ⟨k', hk', (hm k').2 (.inr hin'), by rw [hv, if_neg hne]⟩
   ·exact ⟨k, rfl, (hm k).2 (.inl rfl), by simp⟩
  ·intro x hx
   rcases (hm x).1 hx with rfl | hx
   ·exact ⟨_, by simp only [Array.toList_push, List.mem_append, List.mem_singleton]; exact .inr rfl, rfl⟩
   ·obtain ⟨e', he', hk'⟩ := h2 x hx
    exact ⟨e', by simp only [Array.toList_push, List.mem_append]; exact .inl he', hk'⟩

end

section
variable {P : Program} (w : World) {ops : Array Oper} {rest : List Oper} {o : Oper} {a : Act} {Q : Exit → Act → World → Prop}

theorem wpList_update_is (hg : o.guard = none) (m x v : Operand) (t : TypeId) (hop : o.op = Op.mapUpdate t m x v) (kt et : TypeId) (ht : P.underlying t = some (.map kt et)) (hk : P.underlying kt = some .string)
  (r : Nat) (ks : List ByteArray) (val : ByteArray → Value) (hm : a.eval m = .map (some r)) (h : MapIs w r ks val) (k : ByteArray) (u : Value) (hx : a.eval x = .string k) (hv : a.eval v = u) (ks' : List ByteArray) (hn : ks'.Nodup) (hmem : ∀ x, x ∈ ks' ↔ x = k ∨ x ∈ ks)
  (hK : ∀ w', MapIs w' r ks' (fun x => if x = k then u else val x) → w.grownBy w' (some r) → w'.heap.size = w.heap.size → wpList P ops Q rest (a.put o.dst undef) w') :
  wpList P ops Q (o :: rest) a w := by
 refine wpList_plain hg fun K' hK' => ?_
 obtain ⟨w', hrun, r1, r2, r3⟩ := h.update (P := P) ht hk k u ks' hn hmem
 unfold Oper.wp
 simp [execOp, hop, hm, hx, hv, hrun, Result.andThen]
 exact hK' _ _ (hK w' r1 r2 r3)
end

end Go.Proofs.YtbicoknghdgahaaGreat

namespace Go.Proofs.YtbicoknghdgahaaGreat
open Go.RowKit

theorem gcell {W w1 : World} {row : Option Nat} (hb : W.grownBy w1 row) : (∀ b o, b < W.heap.size → some b ≠ row → w1.cell? ⟨b, o, none⟩ = W.cell? ⟨b, o, none⟩) ∧ (∀ b o, b < W.heap.size → some b ≠ row → w1.frozen? ⟨b, o, none⟩ = W.frozen? ⟨b, o, none⟩) :=
 ⟨fun b o h h' => hb.cell_far ⟨b, o, none⟩ h h', fun b o h h' => hb.frozen_far ⟨b, o, none⟩ h h'⟩

section
variable {F G : Nat → Prop} {w w' : World} {size n : Nat} {A : Option Addr} {xs : List Value}
theorem Row.nil_ : Row F w size A 0 [] := ⟨by simp, fun h => absurd h (by omega)⟩
end

inductive RVAt (F : Nat → Prop) (w : World) : RV → List Value → Prop
 | mk {kind n : Int} {f : Nat} {s : ByteArray} {keys : List ByteArray} {l : List RV} {KA LA : Option Addr} {kc lc : Nat} {xs : List Value} :
  okInt kind → okInt n → f < B64 → s.size ≤ R47 → (∀ k ∈ keys, k.size ≤ R47) → keys.length * 16 ≤ R47 → l.length * 88 ≤ R47 → keys.length ≤ kc → kc ≤ maxLen → l.length ≤ lc → lc ≤ maxLen →
  Row F w 1 KA keys.length (keys.map Value.string) → Row F w 6 LA l.length xs → (∀ i r, l[i]? = some r → RVAt F w r ((xs.drop (i * 6)).take 6)) →
  RVAt F w (.mk kind n f s keys l) [.int .i64 kind, .int .i64 n, .float .f64 f, .string s, .slice KA keys.length kc, .slice LA l.length lc]

section
variable {F G : Nat → Prop} {w w' : World}
theorem RVAt.keeps {r : RV} {cs : List Value} (h : RVAt F w r cs) (k : Keeps F w w') : RVAt F w' r cs := by
 induction h with
 | mk h1 h2 h3 h4 h5 h6 h7 h8 h9 h10 h11 h12 h13 _ ih => exact .mk h1 h2 h3 h4 h5 h6 h7 h8 h9 h10 h11 (h12.keeps k) (h13.keeps k) ih
theorem RVAt.mono {r : RV} {cs : List Value} (h : RVAt F w r cs) (k : ∀ b, F b → G b) : RVAt G w r cs := by
 induction h with
 | mk h1 h2 h3 h4 h5 h6 h7 h8 h9 h10 h11 h12 h13 _ ih => exact .mk h1 h2 h3 h4 h5 h6 h7 h8 h9 h10 h11 (h12.mono k) (h13.mono k) ih
end

def RVs (F : Nat → Prop) (w : World) (rs : List RV) (xs : List Value) : Prop := xs.length = rs.length * 6 ∧ ∀ (i : Nat) r, rs[i]? = some r → RVAt F w r ((xs.drop (i * 6)).take 6)
section
variable {F G : Nat → Prop} {w w' : World}
theorem RVAt.len {r : RV} {cs : List Value} (h : RVAt F w r cs) : cs.length = 6 := by cases h; rfl
theorem RVs.keeps {rs : List RV} {xs : List Value} (h : RVs F w rs xs) (k : Keeps F w w') : RVs F w' rs xs := ⟨h.1, fun i r hr => (h.2 i r hr).keeps k⟩
theorem RVs.mono {rs : List RV} {xs : List Value} (h : RVs F w rs xs) (k : ∀ b, F b → G b) : RVs G w rs xs := ⟨h.1, fun i r hr => (h.2 i r hr).mono k⟩
theorem RVs.nil_ : RVs F w [] [] := ⟨rfl, by simp⟩
theorem RVs.one {r : RV} {cs : List Value} (h : RVAt F w r cs) : RVs F w [r] cs := by
 have hl := h.len
 refine ⟨by simp [hl], fun i r' hr => ?_⟩
 cases i with
 | zero =>
  simp at hr
  subst hr
  rw [Nat.zero_mul, List.drop_zero, List.take_of_length_le (by omega)]
  exact h
 | succ i => simp at hr
theorem RVs.append {rs rs' : List RV} {xs xs' : List Value} (h : RVs F w rs xs) (h' : RVs F w rs' xs') : RVs F w (rs ++ rs') (xs ++ xs') := by
 have l1 := h.1
 have l2 := h'.1
 refine ⟨by simp only [List.length_append]; omega, fun i r hr => ?_⟩
 by_cases hi : i < rs.length
 ·rw [List.getElem?_append_left hi] at hr
  have := h.2 i r hr
  rw [List.drop_append_of_le_length (by omega), List.take_append_of_le_length (by simp only [List.length_drop]; omega)]
  exact this
 ·rw [List.getElem?_append_right (by omega)] at hr
  have := h'.2 _ r hr
  have e : i * 6 = xs.length + (i - rs.length) * 6 := by omega
  rw [e, List.drop_length_add_append]
  exact this
theorem RVs.take {rs : List RV} {xs : List Value} (h : RVs F w rs xs) (m : Nat) (hm : m ≤ rs.length) : RVs F w (rs.take m) (xs.take (m * 6)) := by
 have l1 := h.1
 refine ⟨by simp only [List.length_take]; omega, fun i r hr => ?_⟩
 have hi : i < m := by
  have := (List.getElem?_eq_some_iff.1 hr).1
  simp only [List.length_take] at this
  omega
 rw [List.getElem?_take, if_pos hi] at hr
 have := h.2 i r hr
 rw [List.drop_take, List.take_take, Nat.min_eq_left (by omega)]
 exact this
theorem RVs.drop {rs : List RV} {xs : List Value} (h : RVs F w rs xs) (m : Nat) : RVs F w (rs.drop m) (xs.drop (m * 6)) := by
 have l1 := h.1
 refine ⟨by simp only [List.length_drop]; omega, fun i r hr => ?_⟩
 rw [List.getElem?_drop] at hr
 have := h.2 _ r hr
 rw [List.drop_drop]
 have e : m * 6 + i * 6 = (m + i) * 6 := by omega
 rw [e]
 exact this
theorem RVs.ones {rs : List RV} {xs : List Value} (h : RVs F w rs xs) : ∀ u ∈ xs, u.oneCell' = true := by
 intro u hu
 obtain ⟨j, hj⟩ := List.getElem?_of_mem hu
 have hjl := (List.getElem?_eq_some_iff.1 hj).1
 have l1 := h.1
 have hi : j / 6 < rs.length := by omega
 have hr := h.2 (j / 6) rs[j / 6] (List.getElem?_eq_getElem hi)
 have hu' : ((xs.drop (j / 6 * 6)).take 6)[j % 6]? = some u := by
  rw [List.getElem?_take, if_pos (by omega), List.getElem?_drop]
  have : j / 6 * 6 + j % 6 = j := by omega
  rw [this]
  exact hj
 have hm := List.mem_of_getElem? hu'
 generalize (xs.drop (j / 6 * 6)).take 6 = cs at hr hm
 generalize rs[j / 6] = r at hr
 cases hr
 simp only [List.mem_cons, List.not_mem_nil, or_false] at hm
 rcases hm with rfl | rfl | rfl | rfl | rfl | rfl <;> rfl
end

def Fr (B : Nat) (w : World) : Nat → Prop := fun b => B ≤ b ∧ b < w.heap.size
def FrX (B : Nat) (w : World) (v : Value) : Nat → Prop := fun b => B ≤ b ∧ b < w.heap.size ∧ some b ≠ v.ownBlock
theorem row6_at {F : Nat → Prop} {w : World} {A : Option Addr} {n k : Nat} {xs : List Value} {c0 c1 c2 c3 c4 c5 : Value} (h : Row F w 6 A n xs) (hk : k < n) (hcs : (xs.drop (k * 6)).take 6 = [c0, c1, c2, c3, c4, c5]) :
  ∃ b o, A = some ⟨b, o, none⟩ ∧ F b ∧ w.cell? ⟨b, o + k * 6, none⟩ = some c0 ∧ w.cell? ⟨b, o + k * 6 + 1, none⟩ = some c1 ∧ w.cell? ⟨b, o + k * 6 + 2, none⟩ = some c2 ∧
   w.cell? ⟨b, o + k * 6 + 3, none⟩ = some c3 ∧ w.cell? ⟨b, o + k * 6 + 4, none⟩ = some c4 ∧ w.cell? ⟨b, o + k * 6 + 5, none⟩ = some c5 := by
 obtain ⟨b, o, e, hF, hc⟩ := h.2 (by omega)
 have g : ∀ j u, j < 6 → [c0, c1, c2, c3, c4, c5][j]? = some u → w.cell? ⟨b, o + k * 6 + j, none⟩ = some u := by
  intro j u hj hu
  rw [← hcs, List.getElem?_take, if_pos hj, List.getElem?_drop] at hu
  rw [Nat.add_assoc]
  exact hc _ _ hu
 exact ⟨b, o, e, hF, g 0 _ (by omega) rfl, g 1 _ (by omega) rfl, g 2 _ (by omega) rfl, g 3 _ (by omega) rfl, g 4 _ (by omega) rfl, g 5 _ (by omega) rfl⟩
theorem AnysAt.snoc {F : Nat → Prop} {w : World} {ts : List T} {us : List Value} {t : T} {u : Value} (h : AnysAt F w ts us) (hl : us.length = ts.length) (hu : AnyAt F w t u) : AnysAt F w (ts ++ [t]) (us ++ [u]) := by
 intro i t' u' ht hu'
 rcases Nat.lt_trichotomy i ts.length with hi | hi | hi
 ·rw [List.getElem?_append_left hi] at ht
  rw [List.getElem?_append_left (by omega)] at hu'
  exact h i t' u' ht hu'
 ·rw [List.getElem?_append_right (by omega)] at ht hu'
  simp [hi, hl] at ht hu'
  subst ht; subst hu'
  exact hu
 ·rw [List.getElem?_append_right (by omega)] at ht
  rw [List.getElem?_eq_none (by simp; omega)] at ht
  cases ht

def GivesAny (t : T) (w : World) (e : Ending) (w' : World) : Prop := ∃ u, e = .returned u ∧ AnyAt (Fr w.heap.size w') w' t u ∧ Below w.heap.size w w'

end Go.Proofs.YtbicoknghdgahaaGreat

namespace Go.Proofs.YtbicoknghdgahaaGreat
open Go.RowKit

section
variable {P : Program} (w : World)
theorem wp_append_row {o : Oper} {a : Act} {K : Act → World → Prop} {Q : Exit → Act → World → Prop} (s x : Operand) (t : TypeId)
  (ho : o.op = .call { callee := .builtin .append, args := #[s, x], argTypes := #[t, t] })
  (base : Nat) (e : TypeId) (i : TypeInfo) (z : Value) (size bytes : Nat) (ht : P.underlying t = some (.slice e)) (hi : P.info? e = some i) (hz : i.zero = some z)
  (hsize : i.size = size) (hby : i.bytes = bytes) (hzs : z.cells.size = size) (hsz : 0 < size)
  (v : Value) (n : Nat) (xs : List Value) (hs : a.eval s = v) (hown : w.ownsRow base e size v n xs)
  (F : Nat → Prop) (A : Option Addr) (m c : Nat) (news : List Value) (hx : a.eval x = .slice A m c) (hr : Row F w size A m news) (h1 : ∀ u ∈ news, u.oneCell' = true)
  (hbytes : (n + m) * bytes ≤ 140737488355328) (hb1 : 0 < bytes) (hbase : base ≤ w.heap.size)
  (h : ∀ v' w', w'.ownsRow base e size v' (n + m) (xs ++ news) → w.grownBy w' v.ownBlock → (v'.ownBlock = v.ownBlock ∨ v'.ownBlock = some w.heap.size) → K (a.put o.dst v') w') : o.wp P a w K Q := by
 obtain ⟨v', w', hrun, h2, h3, h4⟩ := run_append_row (P := P) w base t o.type e i z size bytes ht hi hz hsize hby hzs hsz v n xs hown F A m c news hr h1 hbytes hb1 hbase
 unfold Oper.wp execOp
 simp only [ho, resolve, invoke, builtin, Sem.run_bind, Sem.run_pure, Result.andThen_ok, List.map_toArray, List.map_cons, List.map_nil, hs, hx, hrun]
 exact h v' w' h2 h3 h4

theorem wpList_append_row {ops : Array Oper} {rest : List Oper} {o : Oper} {a : Act} {Q : Exit → Act → World → Prop} (hgd : o.guard = none) (s x : Operand) (t : TypeId)
  (ho : o.op = .call { callee := .builtin .append, args := #[s, x], argTypes := #[t, t] })
  (base : Nat) (e : TypeId) (i : TypeInfo) (z : Value) (size bytes : Nat) (ht : P.underlying t = some (.slice e)) (hi : P.info? e = some i) (hz : i.zero = some z)
  (hsize : i.size = size) (hby : i.bytes = bytes) (hzs : z.cells.size = size) (hsz : 0 < size)
  (v : Value) (n : Nat) (xs : List Value) (hs : a.eval s = v) (hown : w.ownsRow base e size v n xs)
  (F : Nat → Prop) (A : Option Addr) (m c : Nat) (news : List Value) (hx : a.eval x = .slice A m c) (hr : Row F w size A m news) (h1 : ∀ u ∈ news, u.oneCell' = true)
  (hbytes : (n + m) * bytes ≤ 140737488355328) (hb1 : 0 < bytes) (hbase : base ≤ w.heap.size)
  (h : ∀ v' w', w'.ownsRow base e size v' (n + m) (xs ++ news) → w.grownBy w' v.ownBlock → (v'.ownBlock = v.ownBlock ∨ v'.ownBlock = some w.heap.size) → wpList P ops Q rest (a.put o.dst v') w') : wpList P ops Q (o :: rest) a w :=
 wpList_plain hgd fun _ hK => wp_append_row w s x t ho base e i z size bytes ht hi hz hsize hby hzs hsz v n xs hs hown F A m c news hx hr h1 hbytes hb1 hbase fun v' w' h2 h3 h4 => hK _ _ (h v' w' h2 h3 h4)

end

end Go.Proofs.YtbicoknghdgahaaGreat

set_option exponentiation.threshold 4000
namespace Go.Proofs.YtbicoknghdgahaaGreat



end Go.Proofs.YtbicoknghdgahaaGreat

namespace Go.Proofs.YtbicoknghdgahaaGreat

theorem feq_self (x : Nat) : feq x x = true ↔ ∃ a, fval x = some a := by
 unfold feq
 rw [forder]
 cases h : fval x with
 | none => simp
 | some a => simp [Int.compare_eq_eq.2 rfl]

end Go.Proofs.YtbicoknghdgahaaGreat

namespace Go.Proofs.YtbicoknghdgahaaGreat




mutual
theorem eqv_iff : ∀ (a b : T), a.Ok → b.Ok → (T.eqv a b = true ↔ T.cmp a b = 0)
 | .null, b, _, _ => by cases b <;> simp [T.cmp, T.eqv, T.ord, cmpI]
 | .bool x, b, _, _ => by cases b <;> simp [T.cmp, T.eqv, T.ord, cmpI]; rename_i y; cases x <;> cases y <;> simp [cmpB]
 | .int n, b, ha, hb => by
  by_cases h : b.isNum = true
  ·rw [(num_cmp ha hb rfl h).1, (num_cmp ha hb rfl h).2, cmpI_zero]; simp
  ·cases b <;> simp [T.isNum] at h <;> simp [T.cmp, T.eqv, T.ord, cmpI]
 | .flt f, b, ha, hb => by
  by_cases h : b.isNum = true
  ·rw [(num_cmp ha hb rfl h).1, (num_cmp ha hb rfl h).2, cmpI_zero]; simp
  ·cases b <;> simp [T.isNum] at h <;> simp [T.cmp, T.eqv, T.ord, cmpI]
 | .str s, b, _, _ => by cases b <;> simp [T.cmp, T.eqv, T.ord, cmpI]; exact cmpS_zero.symm
 | .list l, b, ha, hb => by
  cases b with
  | list m => rw [T.cmp, T.eqv]; exact eqvL_iff l m ha.items hb.items
  | _ => simp [T.cmp, T.eqv, T.ord, cmpI]
 | .map l, b, ha, hb => by
  cases b with
  | map m => rw [T.cmp, T.eqv]; exact eqvM_iff l m ha.fields hb.fields
  | _ => simp [T.cmp, T.eqv, T.ord, cmpI]
theorem eqvL_iff : ∀ (l m : List T), (∀ t ∈ l, T.Ok t) → (∀ t ∈ m, T.Ok t) → (T.eqvL l m = true ↔ T.cmpL l m = 0)
 | [], [], _, _ => by simp [T.cmpL, T.eqvL]
 | [], _ :: _, _, _ => by simp [T.cmpL, T.eqvL]
 | _ :: _, [], _, _ => by simp [T.cmpL, T.eqvL]
 | a :: l, b :: m, h1, h2 => by
  have e := eqv_iff a b (h1 a (by simp)) (h2 b (by simp))
  have e2 := eqvL_iff l m (fun t ht => h1 t (by simp [ht])) (fun t ht => h2 t (by simp [ht]))
  rw [T.cmpL, T.eqvL, Bool.and_eq_true, e, e2]
  by_cases h : T.cmp a b = 0
  ·rw [if_pos h]; simp [h]
  ·rw [if_neg h]; simp [h]
theorem eqvM_iff : ∀ (l m : List (ByteArray × T)), (∀ k t, (k, t) ∈ l → T.Ok t) → (∀ k t, (k, t) ∈ m → T.Ok t) → (T.eqvM l m = true ↔ T.cmpM l m = 0)
 | [], [], _, _ => by simp [T.cmpM, T.eqvM]
 | [], _ :: _, _, _ => by simp [T.cmpM, T.eqvM]
 | _ :: _, [], _, _ => by simp [T.cmpM, T.eqvM]
 | (k, a) :: l, (j, b) :: m, h1, h2 => by
  have e := eqv_iff a b (h1 k a (by simp)) (h2 j b (by simp))
  have e2 := eqvM_iff l m (fun k t ht => h1 k t (by simp [ht])) (fun k t ht => h2 k t (by simp [ht]))
  rw [T.cmpM, T.eqvM, Bool.and_eq_true, Bool.and_eq_true, e, e2, decide_eq_true_iff]
  by_cases h : cmpS k j = 0
  ·rw [if_pos h]
   have hk := cmpS_zero.1 h
   by_cases h : T.cmp a b = 0
   ·rw [if_pos h]; simp [h, hk]
   ·rw [if_neg h]; simp [h]
  ·rw [if_neg h]
   have hk : ¬ k = j := fun e => h (cmpS_zero.2 e)
   simp [h, hk]
end

end Go.Proofs.YtbicoknghdgahaaGreat

namespace Go.Proofs.YtbicoknghdgahaaGreat

end Go.Proofs.YtbicoknghdgahaaGreat

namespace Go.Proofs.YtbicoknghdgahaaGreat

end Go.Proofs.YtbicoknghdgahaaGreat

namespace Go.Proofs.YtbicoknghdgahaaGreat

end Go.Proofs.YtbicoknghdgahaaGreat
