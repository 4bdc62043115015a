/- Parts: Base. -/
import Derived.WalkKit
import Derived.WideShapes
import Derived.Lib.Strings
import Derived.Maps.RangeRun
import Derived.Below
import Derived.MapKept
import Derived.WideLaws
import Derived.OwnWalk
import Derived.Laws.Entries
import Derived.Deep.AppendLies
import Derived.Maps.AppendAt
import Derived.RegionTactic
import Derived.Deep.RegionHeld3
import Derived.BigQuiet
import Derived.Deep.QuietTactic
set_option linter.unusedVariables false
set_option linter.unusedSimpArgs false
namespace Go.Proofs.YtbicoknghdgahaaGreat

theorem less_lt (x : List UInt8) : ∀ y : List UInt8, Op.bytesLess x y = decide (x < y) := by
 induction x with
 | nil => intro y; cases y <;> simp [Op.bytesLess]
 | cons a x ih =>
  intro y
  cases y with
  | nil => simp [Op.bytesLess]
  | cons b y =>
   rw [Op.bytesLess, ih y]
   simp only [List.cons_lt_cons_iff]
   by_cases h1 : a < b <;> by_cases h2 : a = b <;> by_cases h3 : x < y <;> simp [h1, h2, h3]

def klt (a b : ByteArray) : Bool := Op.bytesLess a.toList b.toList

theorem klt_iff (a b : ByteArray) : klt a b = true ↔ a.data.toList < b.data.toList := by
 unfold klt
 rw [less_lt, Lib.toList_data, Lib.toList_data, decide_eq_true_iff]
theorem bytes_ext {a b : ByteArray} (h : a.data.toList = b.data.toList) : a = b := Go.WideShapes.bytes_inj h
theorem u8lt_irrefl (a : UInt8) : ¬ a < a := by simp
theorem klt_irrefl (a : ByteArray) : klt a a = false := by
 rw [Bool.eq_false_iff]; intro h
 exact List.lt_irrefl _ ((klt_iff a a).1 h)
theorem klt_trans {a b c : ByteArray} (h : klt a b = true) (h' : klt b c = true) : klt a c = true :=
 (klt_iff a c).2 (List.lt_trans ((klt_iff a b).1 h) ((klt_iff b c).1 h'))
theorem klt_asymm {a b : ByteArray} (h : klt a b = true) : klt b a = false := by
 rw [Bool.eq_false_iff]; intro h'
 have := klt_trans h h'
 rw [klt_irrefl] at this; cases this
theorem klt_ne {a b : ByteArray} (h : klt a b = true) : a ≠ b := by
 rintro rfl; rw [klt_irrefl] at h; cases h
theorem klt_total (a b : ByteArray) : a = b ∨ klt a b = true ∨ klt b a = true := by
 by_cases h : klt a b = true
 ·exact .inr (.inl h)
 ·by_cases h' : klt b a = true
  ·exact .inr (.inr h')
  ·left
   rw [klt_iff] at h h'
   exact bytes_ext (List.le_antisymm (List.not_lt.1 h') (List.not_lt.1 h))
theorem klt_of_not {a b : ByteArray} (h : klt a b = false) (hne : a ≠ b) : klt b a = true := by
 rcases klt_total a b with h1 | h1 | h1
 ·exact absurd h1 hne
 ·rw [h] at h1; cases h1
 ·exact h1

inductive T where
 | null
 | bool (b : Bool)
 | int (n : Int)
 | flt (f : Nat)
 | str (s : ByteArray)
 | list (l : List T)
 | map (l : List (ByteArray × T))

inductive RV where
 | mk (kind n : Int) (f : Nat) (s : ByteArray) (keys : List ByteArray) (l : List RV)

def ins {α : Type} (k : ByteArray) (v : α) : List (ByteArray × α) → List (ByteArray × α)
 | [] => [(k, v)]
 | p :: r => if klt p.1 k then p :: ins k v r else if p.1 = k then (k, v) :: r else (k, v) :: p :: r

def cnt {α : Type} (k : ByteArray) : List (ByteArray × α) → Nat
 | [] => 0
 | p :: r => if klt p.1 k then cnt k r + 1 else 0

def Sorted {α : Type} (l : List (ByteArray × α)) : Prop := l.Pairwise fun p q => klt p.1 q.1 = true

section
variable {α β : Type}

theorem sorted_nodup {l : List (ByteArray × α)} (h : Sorted l) : (l.map Prod.fst).Nodup := by
 unfold List.Nodup
 rw [List.pairwise_map]
 exact h.imp fun h => klt_ne h
def mapOf (keys : List ByteArray) (l : List α) : List (ByteArray × α) := (keys.zip l).foldl (fun m p => ins p.1 p.2 m) []
end

noncomputable def RV.rank (r : RV) : Nat := SizeOf.sizeOf r
noncomputable def T.rank (t : T) : Nat := SizeOf.sizeOf t
theorem T.rank_list {l : List T} {t : T} (h : t ∈ l) : t.rank < (T.list l).rank := by
 have h1 := List.sizeOf_lt_of_mem h
 unfold T.rank
 simp only [T.list.sizeOf_spec]
 omega
theorem T.rank_map {l : List (ByteArray × T)} {k : ByteArray} {t : T} (h : (k, t) ∈ l) : t.rank < (T.map l).rank := by
 have h1 := List.sizeOf_lt_of_mem h
 unfold T.rank
 simp only [T.map.sizeOf_spec, Prod.mk.sizeOf_spec] at *
 omega

mutual
def RV.tree : RV → T
 | .mk kind n f s keys l =>
  if kind = 1 then .bool (n != 0)
  else if kind = 2 then .int n
  else if kind = 3 then .flt f
  else if kind = 4 then .str s
  else if kind = 5 then .list (RV.treeL l)
  else if kind = 6 then .map (mapOf keys (RV.treeL l))
  else .null
def RV.treeL : List RV → List T
 | [] => []
 | r :: rs => r.tree :: RV.treeL rs
end
end Go.Proofs.YtbicoknghdgahaaGreat

namespace Go.Proofs.YtbicoknghdgahaaGreat
open Go.RowKit Go.MapKept Go.ChangeMaps

structure MapIs (w : World) (r : Nat) (ks : List ByteArray) (val : ByteArray → Value) : Prop where
 ex : ∃ es clock, w.heap[r]? = some (.map es clock) ∧ Stamped es clock ∧ ks.Nodup ∧
  (∀ e ∈ es.toList, ∃ k, e.key = .string k ∧ k ∈ ks ∧ e.val = val k) ∧ (∀ k ∈ ks, ∃ e ∈ es.toList, e.key = .string k)

section
variable {P : Program} {w w' : World} {r : Nat} {ks : List ByteArray} {val : ByteArray → Value} {t kt et : TypeId}

theorem MapIs.keep (h : MapIs w r ks val) (k : w'.heap[r]? = w.heap[r]?) : MapIs w' r ks val := by
 obtain ⟨es, clock, hb, rest⟩ := h.ex
 exact ⟨es, clock, k.trans hb, rest⟩
theorem MapIs.lt (h : MapIs w r ks val) : r < w.heap.size := by
 obtain ⟨es, clock, hb, _⟩ := h.ex
 exact (Array.getElem?_eq_some_iff.1 hb).1
theorem MapIs.nodup (h : MapIs w r ks val) : ks.Nodup := by
 obtain ⟨es, clock, _, _, h, _⟩ := h.ex
 exact h
theorem MapIs.made (w : World) (val : ByteArray → Value) : MapIs (w.alloc (.map #[] 0)) w.heap.size [] val :=
 ⟨#[], 0, (MapKept.heap_alloc w _).1, stamped_empty 0, by simp, by simp, by simp⟩

theorem isKey_str {es : Array MapEntry} (h : ∀ e ∈ es.toList, ∃ k, e.key = .string k ∧ k ∈ ks ∧ e.val = val k) : ∀ x ∈ es.toList, IsKey .string x.key := by
 intro x hx
 obtain ⟨k, hk, _⟩ := h x hx
 rw [hk]
 trivial
theorem entry_eq_of_keys {es : Array MapEntry} {clock : Nat} (hs : Stamped es clock) {x y : MapEntry} (hx : x ∈ es.toList) (hy : y ∈ es.toList) (h : x.key = y.key) : x = y := by
 have hp := ((stamped_iff es clock).1 hs).2.2
 clear hs
 generalize es.toList = l at hp hx hy
 induction hp with
 | nil => simp at hx
 | cons h1 _ ih =>
  rcases List.mem_cons.1 hx with ex | hx'
  ·rcases List.mem_cons.1 hy with ey | hy'
   ·rw [ex, ey]
   ·subst ex; exact absurd h (h1 y hy')
  ·rcases List.mem_cons.1 hy with ey | hy'
   ·subst ey; exact absurd h.symm (h1 x hx')
   ·exact ih hx' hy'

theorem find_str {es : Array MapEntry} {clock : Nat} (_hs : Stamped es clock) (h1 : ∀ e ∈ es.toList, ∃ k, e.key = .string k ∧ k ∈ ks ∧ e.val = val k) (h2 : ∀ k ∈ ks, ∃ e ∈ es.toList, e.key = .string k) (k : ByteArray) :
  (k ∈ ks ∧ ∃ j e, Instr.findNow .string (.string k) es.toList 0 = some (some (j, val k)) ∧ es.toList[j]? = some e ∧ e.key = .string k) ∨
  (k ∉ ks ∧ Instr.findNow .string (.string k) es.toList 0 = some none ∧ ∀ x ∈ es.toList, x.key ≠ .string k) := by
 rcases findNow_spec (d := .string) (k := .string k) trivial es.toList 0 (isKey_str h1) with ⟨q1, q2⟩ | ⟨j, e, q1, q2, q3⟩
 ·right
  refine ⟨fun hk => ?_, q1, q2⟩
  obtain ⟨e, he, hek⟩ := h2 k hk
  exact q2 e he hek
 ·left
  have hem := List.mem_of_getElem? q2
  obtain ⟨k', hk', hm, hv⟩ := h1 e hem
  rw [q3] at hk'
  injection hk' with hk'
  subst hk'
  exact ⟨hm, j, e, by rw [q1, hv]; simp, q2, q3⟩

theorem MapIs.lookup_ok (h : MapIs w r ks val) (ht : P.underlying t = some (.map kt et)) (hk : P.underlying kt = some .string) (k : ByteArray) (hm : k ∈ ks) :
  (Instr.lookup t (.map (some r)) (.string k) true).run P w = .ok (.tuple #[val k, .bool true]) w ∧ (Instr.lookup t (.map (some r)) (.string k) false).run P w = .ok (val k) w := by
 obtain ⟨es, clock, hb, hs, _, h1, h2⟩ := h.ex
 rcases find_str hs h1 h2 k with ⟨_, j, e, q1, _⟩ | ⟨q, _⟩
 ·constructor <;> simp [Instr.lookup, run_underlying ht, MapKept.run_getObj_map hb, run_checkKey (d := .string) (k := .string k) hk trivial, run_findKey hk q1, Result.andThen]
 ·exact absurd hm q
theorem MapIs.lookup_no (h : MapIs w r ks val) (ht : P.underlying t = some (.map kt et)) (hk : P.underlying kt = some .string) {z : Value} (hz : (zeroValue et).run P w = .ok z w) (k : ByteArray) (hm : k ∉ ks) :
  (Instr.lookup t (.map (some r)) (.string k) true).run P w = .ok (.tuple #[z, .bool false]) w ∧ (Instr.lookup t (.map (some r)) (.string k) false).run P w = .ok z w := by
 obtain ⟨es, clock, hb, hs, _, h1, h2⟩ := h.ex
 rcases find_str hs h1 h2 k with ⟨q, _⟩ | ⟨_, q1, _⟩
 ·exact absurd q hm
 ·constructor <;> simp [Instr.lookup, run_underlying ht, MapKept.run_getObj_map hb, run_checkKey (d := .string) (k := .string k) hk trivial, run_findKey hk q1, hz, Result.andThen]

theorem MapIs.size (h : MapIs w r ks val) {es : Array MapEntry} {clock : Nat} (hb : w.heap[r]? = some (.map es clock)) : es.size = ks.length := by
 obtain ⟨es', clock', hb', hs, hn, h1, h2⟩ := h.ex
 rw [hb] at hb'
 cases hb'
 have hp : (es.toList.map (·.key)).Perm (ks.map Value.string) := by
  refine (List.perm_ext_iff_of_nodup hs.2.2 ?_).2 fun v => ?_
  ·exact List.Pairwise.map _ (fun a b (hab : a ≠ b) e => hab (by injection e)) hn
  ·constructor
   ·intro hv
    obtain ⟨e, he, rfl⟩ := List.mem_map.1 hv
    obtain ⟨k, hk, hin, _⟩ := h1 e he
    exact List.mem_map.2 ⟨k, hin, hk.symm⟩
   ·intro hv
    obtain ⟨k, hk, rfl⟩ := List.mem_map.1 hv
    obtain ⟨e, he, hek⟩ := h2 k hk
    exact List.mem_map.2 ⟨e, he, hek⟩
 have := hp.length_eq
 simpa using this
theorem MapIs.run_len (h : MapIs w r ks val) (ht : P.underlying t = some (.map kt et)) (ty : TypeId) : (Builtin.len_ #[t] ty #[.map (some r)]).run P w = .ok (.int .i64 (ks.length : Int)) w := by
 obtain ⟨es, clock, hb, _⟩ := h.ex
 have := h.size hb
 simp [Builtin.len_, run_underlying ht, MapKept.run_getObj_map hb, this, goInt, Result.andThen]

structure MapRange (w : World) (it r : Nat) (ks : List ByteArray) (val : ByteArray → Value) (left : List ByteArray) : Prop where
 ex : ∃ es clock seen c0, w.heap[r]? = some (.map es clock) ∧ Stamped es clock ∧ ks.Nodup ∧
  (∀ e ∈ es.toList, ∃ k, e.key = .string k ∧ k ∈ ks ∧ e.val = val k) ∧ (∀ k ∈ ks, ∃ e ∈ es.toList, e.key = .string k) ∧
  w.heap[it]? = some (.mapIter (some r) clock seen c0) ∧ clock ≤ c0 ∧ left.Nodup ∧ (∀ k ∈ left, k ∈ ks) ∧ (∀ e ∈ es.toList, ∀ k, e.key = .string k → (k ∈ left ↔ seen.contains e.born = false))

theorem MapRange.is_ {it : Nat} {left : List ByteArray} (h : MapRange w it r ks val left) : MapIs w r ks val := by
 obtain ⟨es, clock, seen, c0, hb, hs, hn, h1, h2, _⟩ := h.ex
 exact ⟨es, clock, hb, hs, hn, h1, h2⟩
theorem MapRange.lt {it : Nat} {left : List ByteArray} (h : MapRange w it r ks val left) : it < w.heap.size := by
 obtain ⟨es, clock, seen, c0, _, _, _, _, _, hi, _⟩ := h.ex
 exact (Array.getElem?_eq_some_iff.1 hi).1
theorem MapRange.keep {it : Nat} {left : List ByteArray} (h : MapRange w it r ks val left) (k1 : w'.heap[r]? = w.heap[r]?) (k2 : w'.heap[it]? = w.heap[it]?) : MapRange w' it r ks val left := by
 obtain ⟨es, clock, seen, c0, hb, hs, hn, h1, h2, hi, rest⟩ := h.ex
 exact ⟨es, clock, seen, c0, k1.trans hb, hs, hn, h1, h2, k2.trans hi, rest⟩
theorem MapIs.range (h : MapIs w r ks val) (ht : P.underlying t = some (.map kt et)) :
  (Instr.range t (.map (some r))).run P w = .ok (.pointer (some ⟨w.heap.size, 0, none⟩)) (w.alloc (.mapIter (some r) ((w.heap[r]?).elim 0 fun | .map _ c => c | _ => 0) #[] ((w.heap[r]?).elim 0 fun | .map _ c => c | _ => 0))) ∧
  MapRange (w.alloc (.mapIter (some r) ((w.heap[r]?).elim 0 fun | .map _ c => c | _ => 0) #[] ((w.heap[r]?).elim 0 fun | .map _ c => c | _ => 0))) w.heap.size r ks val ks := by
 obtain ⟨es, clock, hb, hs, hn, h1, h2⟩ := h.ex
 have hlt := h.lt
 simp only [hb, Option.elim_some]
 refine ⟨run_range_map w t kt et r es clock ht hb, ⟨es, clock, #[], clock, ((MapKept.heap_alloc w _).2 r hlt).trans hb, hs, hn, h1, h2, (MapKept.heap_alloc w _).1, Nat.le_refl _, hn, fun k hk => hk, fun e he k hk => ?_⟩⟩
 obtain ⟨k', hk', hin, _⟩ := h1 e he
 rw [hk] at hk'
 injection hk' with hk'
 subst hk'
 simp [hin]
theorem MapRange.next {it : Nat} {left : List ByteArray} (h : MapRange w it r ks val left) (ty : TypeId) :
  (left = [] ∧ (Instr.next (.pointer (some ⟨it, 0, none⟩)) false ty).run P w = .ok (.tuple #[.bool false]) w) ∨
  ∃ k w', k ∈ left ∧ (Instr.next (.pointer (some ⟨it, 0, none⟩)) false ty).run P w = .ok (.tuple #[.bool true, .string k, val k]) w' ∧ MapRange w' it r ks val (left.filter fun x => decide (x ≠ k)) ∧ w.grownBy w' (some it) ∧ w'.heap.size = w.heap.size ∧
   (Instr.entry (.pointer (some ⟨it, 0, none⟩))).run P w' = .ok (.tuple #[.string k, val k]) w' := by
 obtain ⟨es, clock, seen, c0, hb, hs, hn, h1, h2, hi, hc, hln, hls, hl⟩ := h.ex
 have hne : it ≠ r := by rintro rfl; rw [hb] at hi; cases hi
 have hst := (stamped_iff es clock).1 hs
 rcases run_next_at (P := P) w ty it r clock c0 seen es clock hi hb hst.1 hc with ⟨h0, hrun⟩ | ⟨e, he, w1, hal, hrun⟩
 ·refine .inl ⟨?_, hrun⟩
  cases left with
  | nil => rfl
  | cons k rest =>
   exfalso
   obtain ⟨e, he, hek⟩ := h2 k (hls k (by simp))
   have hs' := (hl e he k hek).1 (by simp)
   have hmem : e ∈ (leftOf es seen).toList := by
    simp only [leftOf, Array.toList_filter, List.mem_filter]
    exact ⟨he, by rw [hs']; rfl⟩
   have : (leftOf es seen).toList.length = 0 := by simpa using h0
   rw [List.length_eq_zero_iff] at this
   rw [this] at hmem
   cases hmem
 ·have hem : e ∈ es.toList ∧ seen.contains e.born = false := by
   simp only [leftOf, Array.toList_filter, List.mem_filter, Bool.not_eq_true'] at he
   exact he
  obtain ⟨k, hk, hin, hv⟩ := h1 e hem.1
  have hleft : k ∈ left := (hl e hem.1 k hk).2 hem.2
  have hr1 : w1.heap[it]? = some (.mapIter (some r) clock seen c0) := by rcases hal with rfl | rfl <;> exact hi
  have hb1 : w1.heap[r]? = some (.map es clock) := by rcases hal with rfl | rfl <;> exact hb
  have hset := heap_set (o' := .mapIter (some r) clock (seen.push e.born) clock) hr1
  have hb' : (setBlock w1 it (.mapIter (some r) clock (seen.push e.born) clock)).heap[r]? = some (.map es clock) := (hset.2 r (fun e1 => hne e1.symm)).trans hb1
  rw [hk, hv] at hrun
  refine .inr ⟨k, _, hleft, hrun, ⟨es, clock, seen.push e.born, clock, hb', hs, hn, h1, h2, hset.1, Nat.le_refl _, hln.filter _, fun x hx => hls x (List.mem_filter.1 hx).1, fun e' he' k' hk' => ?_⟩, ?_, ?_, ?_⟩
  ·rw [List.mem_filter, hl e' he' k' hk']
   simp only [Array.contains_push, Bool.or_eq_false_iff, beq_eq_false_iff_ne, ne_eq, decide_eq_true_eq]
   constructor
   ·rintro ⟨q2, q1⟩
    refine ⟨q2, fun e1 => q1 ?_⟩
    have hst2 := hst.2.1
    have : e' = e := by
     obtain ⟨i, hi'⟩ := List.getElem?_of_mem he'
     obtain ⟨j, hj'⟩ := List.getElem?_of_mem hem.1
     have h3 : (es.toList.map (·.born))[i]? = (es.toList.map (·.born))[j]? := by rw [List.getElem?_map, List.getElem?_map, hi', hj']; simp [e1]
     have := (List.getElem?_inj (by have := (List.getElem?_eq_some_iff.1 hi').1; simpa using this) hst2).1 h3
     subst this
     rw [hi'] at hj'
     exact Option.some.inj hj'
    subst this
    rw [hk] at hk'
    injection hk' with hk'
    exact hk'.symm
   ·rintro ⟨q1, q2⟩
    refine ⟨q1, fun e1 => q2 ?_⟩
    subst e1
    rw [entry_eq_of_keys hs he' hem.1 (hk'.trans hk.symm)]
  ·rcases hal with rfl | rfl <;> exact ⟨rfl, rfl, rfl, by simp [setBlock], fun i _ hi => hset.2 i (fun e1 => hi (by rw [e1]))⟩
  ·rcases hal with rfl | rfl <;> simp [setBlock]
  ·have := run_entry_at (P := P) (setBlock w1 it (.mapIter (some r) clock (seen.push e.born) clock)) it r clock seen es clock e hset.1 hb' hem.1 hst.2.1
   rw [hk, hv] at this
   exact this
end

end Go.Proofs.YtbicoknghdgahaaGreat

namespace Go.Proofs.YtbicoknghdgahaaGreat
open Go.RowKit

theorem hide {p : Prop} (h : p) : Hid p := h

theorem run_store_float (P : Program) (w : World) (a : Addr) (m : Mode) (k : FloatKind) (b : Nat) : (store a (.float k b) m).run P w = stored P w a (.float k b) m := run_store P w a _ m rfl

def R47 : Nat := 140737488351232
def B64 : Nat := 18446744073709551616
def okInt (n : Int) : Prop := -9223372036854775808 ≤ n ∧ n ≤ 9223372036854775807

def Keeps (F : Nat → Prop) (w w' : World) : Prop := ∀ b, F b → w'.heap[b]? = w.heap[b]?

theorem Keeps.refl (F : Nat → Prop) (w : World) : Keeps F w w := fun _ _ => rfl
theorem Keeps.trans {F : Nat → Prop} {a b c : World} (h : Keeps F a b) (k : Keeps F b c) : Keeps F a c := fun x hx => (k x hx).trans (h x hx)
theorem Keeps.mono {F G : Nat → Prop} {a b : World} (h : Keeps G a b) (hg : ∀ x, F x → G x) : Keeps F a b := fun x hx => h x (hg x hx)
theorem Keeps.below {F : Nat → Prop} {B : Nat} {a b : World} (h : Below B a b) (hF : ∀ x, F x → x < B) : Keeps F a b := fun x hx => h.block x (hF x hx)
theorem Keeps.grown {F : Nat → Prop} {row : Option Nat} {a b : World} (h : a.grownBy b row) (hF : ∀ x, F x → x < a.heap.size ∧ some x ≠ row) : Keeps F a b :=
 fun x hx => h.block x (hF x hx).1 (hF x hx).2
theorem Keeps.alloc {F : Nat → Prop} (w : World) (o : Obj) (hF : ∀ x, F x → x < w.heap.size) : Keeps F w (w.alloc o) := fun x hx => Below.heap_alloc w o x (hF x hx)
theorem Keeps.setCell {F : Nat → Prop} (w : World) (a : Addr) (u : Value) (hF : ∀ x, F x → x ≠ a.block) : Keeps F w (w.setCell a u) := fun x hx => Below.heap_setCell w a u x (hF x hx)

theorem bcell {W w1 : World} {B : Nat} (hb : Below B W w1) : (∀ b o, b < B → w1.cell? ⟨b, o, none⟩ = W.cell? ⟨b, o, none⟩) ∧ (∀ b o, b < B → w1.frozen? ⟨b, o, none⟩ = W.frozen? ⟨b, o, none⟩) :=
 ⟨fun b o h => hb.cell (p := ⟨b, o, none⟩) h, fun b o h => hb.frozen (p := ⟨b, o, none⟩) h⟩
def Row (F : Nat → Prop) (w : World) (size : Nat) (A : Option Addr) (n : Nat) (xs : List Value) : Prop :=
 xs.length = n * size ∧ (0 < n → ∃ b o, A = some ⟨b, o, none⟩ ∧ F b ∧ ∀ j u, xs[j]? = some u → w.cell? ⟨b, o + j, none⟩ = some u)

section
variable {F G : Nat → Prop} {w w' : World} {size n : Nat} {A : Option Addr} {xs : List Value}
theorem Row.keeps (h : Row F w size A n xs) (k : Keeps F w w') : Row F w' size A n xs :=
 ⟨h.1, fun hn => by
  obtain ⟨b, o, e, hF, hc⟩ := h.2 hn
  exact ⟨b, o, e, hF, fun j u hu => (World.cell?_of_block (a := ⟨b, o + j, none⟩) (k b hF)).trans (hc j u hu)⟩⟩
theorem Row.mono (h : Row F w size A n xs) (k : ∀ b, F b → G b) : Row G w size A n xs :=
 ⟨h.1, fun hn => by
  obtain ⟨b, o, e, hF, hc⟩ := h.2 hn
  exact ⟨b, o, e, k b hF, hc⟩⟩
theorem Row.take {m : Nat} (h : Row F w size A n xs) (hm : m ≤ n) : Row F w size A m (xs.take (m * size)) := by
 refine ⟨?_, fun hn => ?_⟩
 ·rw [List.length_take, h.1]
  exact Nat.min_eq_left (Nat.mul_le_mul_right _ hm)
 ·obtain ⟨b, o, e, hF, hc⟩ := h.2 (by omega)
  refine ⟨b, o, e, hF, fun j u hu => hc j u ?_⟩
  rw [List.getElem?_take] at hu
  split at hu
  ·exact hu
  ·cases hu
theorem Row.drop {m c : Nat} (h : Row F w size A n xs) (hm : m ≤ n) (hc : n ≤ c) : Row F w size (if c = m then A else A.map (·.add (m * size))) (n - m) (xs.drop (m * size)) := by
 refine ⟨by rw [List.length_drop, h.1, Nat.sub_mul], fun hn => ?_⟩
 obtain ⟨b, o, rfl, hF, hcell⟩ := h.2 (by omega)
 rw [if_neg (by omega)]
 refine ⟨b, o + m * size, ?_, hF, fun j u hu => ?_⟩
 ·simp only [Option.map_some, Addr.add]
  split
  ·rename_i h0; rw [h0]; rfl
  ·rfl
 ·rw [List.getElem?_drop] at hu
  rw [Nat.add_assoc]
  exact hcell _ u hu
theorem Row.of_own {base : Nat} {e : TypeId} {c : Nat} (h : w.ownsRow base e size (.slice A n c) n xs) (hF : ∀ g, (Value.slice A n c).ownBlock = some g → F g) : Row F w size A n xs := by
 refine ⟨h.1, fun hn => ?_⟩
 obtain ⟨g, cap, hv, _, _⟩ := h.form hn
 have hA : A = some ⟨g, 0, none⟩ := by injection hv
 subst hA
 refine ⟨g, 0, rfl, hF g rfl, fun j u hu => ?_⟩
 have := h.cells (g := g) rfl j u hu
 unfold Addr.add at this
 split at this
 ·rename_i h0; subst h0; simpa using this
 ·simpa using this
end

inductive AnyAt (F : Nat → Prop) (w : World) : T → Value → Prop
 | null : AnyAt F w .null .nilIface
 | bool (b : Bool) : AnyAt F w (.bool b) (.iface 4 (.bool b))
 | int {n : Int} : okInt n → AnyAt F w (.int n) (.iface 2 (.int .i64 n))
 | flt {f : Nat} : f < B64 → AnyAt F w (.flt f) (.iface 25 (.float .f64 f))
 | str {s : ByteArray} : s.size ≤ R47 → AnyAt F w (.str s) (.iface 9 (.string s))
 | list {l : List T} {A : Option Addr} {c : Nat} {xs : List Value} : l.length * 88 ≤ R47 → l.length ≤ c → c ≤ maxLen → Row F w 1 A l.length xs →
  (∀ (i : Nat) t u, l[i]? = some t → xs[i]? = some u → AnyAt F w t u) → AnyAt F w (.list l) (.iface 292 (.slice A l.length c))
 | map {l : List (ByteArray × T)} {r : Nat} {val : ByteArray → Value} : l.length * 88 ≤ R47 → (∀ p ∈ l, p.1.size ≤ R47) → Sorted l → F r → MapIs w r (l.map Prod.fst) val →
  (∀ k t, (k, t) ∈ l → AnyAt F w t (val k)) → AnyAt F w (.map l) (.iface 307 (.map (some r)))

section
variable {F G : Nat → Prop} {w w' : World}
theorem AnyAt.keeps {t : T} {u : Value} (h : AnyAt F w t u) (k : Keeps F w w') : AnyAt F w' t u := by
 induction h with
 | null => exact .null
 | bool b => exact .bool b
 | int h => exact .int h
 | flt h => exact .flt h
 | str h => exact .str h
 | list h1 h2 h3 h4 _ ih => exact .list h1 h2 h3 (h4.keeps k) ih
 | map h1 h2 h3 h4 h5 _ ih => exact .map h1 h2 h3 h4 (h5.keep (k _ h4)) ih
theorem AnyAt.mono {t : T} {u : Value} (h : AnyAt F w t u) (k : ∀ b, F b → G b) : AnyAt G w t u := by
 induction h with
 | null => exact .null
 | bool b => exact .bool b
 | int h => exact .int h
 | flt h => exact .flt h
 | str h => exact .str h
 | list h1 h2 h3 h4 _ ih => exact .list h1 h2 h3 (h4.mono k) ih
 | map h1 h2 h3 h4 h5 _ ih => exact .map h1 h2 h3 (k _ h4) h5 ih
end

def Old (w : World) : Nat → Prop := fun b => b < w.heap.size

theorem ownsRow_below {w w' : World} {B base : Nat} {e : TypeId} {size n : Nat} {v : Value} {xs : List Value} (h : w.ownsRow base e size v n xs) (hb : Below B w w') (hB : w.heap.size ≤ B) : w'.ownsRow base e size v n xs := by
 obtain ⟨h1, h2⟩ := h
 refine ⟨h1, ?_⟩
 rcases h2 with h2 | ⟨g, cap, cur, hv, hg, hh, r⟩
 ·exact Or.inl h2
 ·have hlt : g < w.heap.size := (Array.getElem?_eq_some_iff.1 hh).1
  exact Or.inr ⟨g, cap, cur, hv, hg, (hb.block g (by omega)).trans hh, r⟩
theorem row1_at {F : Nat → Prop} {w : World} {A : Option Addr} {n k : Nat} {xs : List Value} {u : Value} (h : Row F w 1 A n xs) (hk : k < n) (hu : xs[k]? = some u) :
  ∃ b o, A = some ⟨b, o, none⟩ ∧ F b ∧ w.cell? ⟨b, o + k, none⟩ = some u := by
 obtain ⟨b, o, e, hF, hc⟩ := h.2 (by omega)
 exact ⟨b, o, e, hF, hc _ _ hu⟩

def AnysAt (F : Nat → Prop) (w : World) (ts : List T) (us : List Value) : Prop := ∀ (i : Nat) t u, ts[i]? = some t → us[i]? = some u → AnyAt F w t u
theorem AnysAt.keeps {F G : Nat → Prop} {w w' : World} {ts : List T} {us : List Value} (h : AnysAt F w ts us) (k : Keeps F w w') (g : ∀ b, F b → G b) : AnysAt G w' ts us :=
 fun i t u ht hu => ((h i t u ht hu).keeps k).mono g
theorem AnyAt.one {F : Nat → Prop} {w : World} {t : T} {u : Value} (h : AnyAt F w t u) : u.cells = #[u] ∧ u.oneCell' = true := by cases h <;> exact ⟨rfl, rfl⟩

end Go.Proofs.YtbicoknghdgahaaGreat

namespace Go.Proofs.YtbicoknghdgahaaGreat
open Go.RowKit

def Bk (w : World) (g : Nat) (t : TypeId) (cs : Array Value) : Prop := w.heap[g]? = some (.cells cs t (0, 0))
section
variable {w w' : World} {g : Nat} {t : TypeId} {cs : Array Value}
theorem Bk.lt (h : Bk w g t cs) : g < w.heap.size := (Array.getElem?_eq_some_iff.1 h).1
theorem Bk.cell (h : Bk w g t cs) (i : Nat) : w.cell? ⟨g, i, none⟩ = cs[i]? := cell_of_row w g i cs t (0, 0) h
theorem Bk.free (h : Bk w g t cs) (i : Nat) : w.frozen? ⟨g, i, none⟩ = false := by unfold Bk at h; simp [World.frozen?, h]
theorem Bk.new (w : World) (t : TypeId) (cs : Array Value) : Bk (w.alloc (.cells cs t)) w.heap.size t cs := heap_alloc_new w _
theorem Bk.alloc (h : Bk w g t cs) (o : Obj) : Bk (w.alloc o) g t cs := (Below.heap_alloc w o g h.lt).trans h
theorem Bk.drewN (h : Bk w g t cs) (n : Nat) : Bk (w.drewN n) g t cs := h
theorem Bk.drew (h : Bk w g t cs) : Bk w.drew g t cs := h
theorem Bk.below {B : Nat} (h : Bk w g t cs) (hb : Below B w w') (hg : g < B) : Bk w' g t cs := (hb.block g hg).trans h
theorem Bk.grown {row : Option Nat} (h : Bk w g t cs) (hb : w.grownBy w' row) (hg : some g ≠ row) : Bk w' g t cs := (hb.block g h.lt hg).trans h
theorem Bk.set_ (h : Bk w g t cs) (i : Nat) (u : Value) : Bk (w.setCell ⟨g, i, none⟩ u) g t (cs.setIfInBounds i u) := by
 unfold Bk at h ⊢
 simp [World.setCell, Array.getElem?_modify, h]
theorem Bk.far (h : Bk w g t cs) {p : Addr} (hp : g ≠ p.block) (u : Value) : Bk (w.setCell p u) g t cs := (Below.heap_setCell w p u g hp).trans h
theorem Bk.ne_ {g' : Nat} {t' : TypeId} {cs' : Array Value} (h : Bk w g t cs) (h' : Bk w g' t' cs') (hne : t ≠ t') : g ≠ g' := by
 rintro rfl
 unfold Bk at h h'
 rw [h] at h'
 injection h' with h'
 injection h' with _ ht
 exact hne ht
theorem own_ne {base : Nat} {e : TypeId} {size n : Nat} {v : Value} {xs : List Value} (h : w.ownsRow base e size v n xs) (hg : Bk w g t cs) (hne : e ≠ t) : some g ≠ v.ownBlock := by
 rcases h.2 with ⟨rfl, _⟩ | ⟨g', cap, cur, rfl, _, hh, _⟩
 ·simp [Value.ownBlock]
 ·intro he
  have e1 : g = g' := by simpa [Value.ownBlock] using he
  subst e1
  exact Bk.ne_ (t := e) hh hg hne rfl
theorem own_form {base : Nat} {e : TypeId} {size n : Nat} {v : Value} {xs : List Value} (h : w.ownsRow base e size v n xs) : ∃ A c, v = .slice A n c ∧ n ≤ c ∧ c ≤ maxLen := by
 rcases h.2 with ⟨e, h0⟩ | ⟨g, cap, cur, e, _, _, h3, h4, _⟩
 ·exact ⟨none, 0, by rw [e, h0], by omega, by unfold maxLen; omega⟩
 ·exact ⟨_, cap, e, h3, h4⟩
end

theorem cells_at (w : World) (cs : List Value) (t : TypeId) (n : Nat) (h : w.heap.size = n) : ∀ (j : Nat) u, cs[j]? = some u → (w.alloc (.cells cs.toArray t)).cell? ((⟨n, 0, none⟩ : Addr).add j) = some u := by
 subst h
 intro j u hu
 have := (Bk.new w t cs.toArray).cell j
 unfold Addr.add
 split
 ·rename_i h0
  subst h0
  rw [this]
  simpa using hu
 ·rw [Nat.zero_add, this]
  simpa using hu

section
variable {P : Program} (w : World)
theorem run_append_row (base : Nat) (t ty e : TypeId) (i : TypeInfo) (z : Value) (size bytes : Nat) (ht : P.underlying t = some (.slice e)) (hi : P.info? e = some i) (hz : i.zero = some z)
  (hsize : i.size = size) (hby : i.bytes = bytes) (hzs : z.cells.size = size) (hsz : 0 < size)
  (v : Value) (n : Nat) (xs : List Value) (hown : w.ownsRow base e size v n xs)
  (F : Nat → Prop) (A : Option Addr) (m c : Nat) (news : List Value) (hr : Row F w size A m news) (h1 : ∀ u ∈ news, u.oneCell' = true)
  (hbytes : (n + m) * bytes ≤ 140737488355328) (hb1 : 0 < bytes) (hbase : base ≤ w.heap.size) :
  ∃ v' w', (Builtin.append_ #[t, t] ty #[v, .slice A m c]).run P w = .ok v' w' ∧ w'.ownsRow base e size v' (n + m) (xs ++ news) ∧ w.grownBy w' v.ownBlock ∧ (v'.ownBlock = v.ownBlock ∨ v'.ownBlock = some w.heap.size) := by
 have h63 : n + m ≤ maxLen := by
  have : n + m ≤ (n + m) * bytes := Nat.le_mul_of_pos_right _ hb1
  unfold maxLen
  omega
 by_cases h0 : m = 0
 ·subst h0
  have hn : news = [] := List.eq_nil_of_length_eq_zero (by simpa using hr.1)
  subst hn
  cases A with
  | some a =>
   obtain ⟨v', w', q1, q2, q3, _, q5⟩ := run_append_own_at (P := P) w base t ty e i z size bytes ht hi hz hsize hby hzs hsz v n xs hown a 0 c [] (by simp) (by simp) (by simp) h63 hbytes hbase
   exact ⟨v', w', q1, q2, q3, q5⟩
  | none =>
   refine ⟨v, w, ?_, by simpa using hown, World.grownBy.refl w _, .inl rfl⟩
   rcases hown.2 with ⟨rfl, rfl⟩ | ⟨g, cap, cur, rfl, _, _, hnc, _⟩
   ·simp [Builtin.append_, run_underlying ht, sizeOf, typeInfo, hi, Builtin.lenOf, Builtin.firstCells]
   ·simp [Builtin.append_, run_underlying ht, sizeOf, typeInfo, hi, Builtin.lenOf, Builtin.firstCells, hnc, storeCells]
 ·obtain ⟨b, o, rfl, _, hc⟩ := hr.2 (by omega)
  obtain ⟨v', w', q1, q2, q3, _, q5⟩ := run_append_own_at (P := P) w base t ty e i z size bytes ht hi hz hsize hby hzs hsz v n xs hown ⟨b, o, none⟩ m c news hr.1 (fun j u hu => by
   have := hc j u hu
   unfold Addr.add
   split
   ·rename_i h; subst h; simpa using this
   ·exact this) h1 h63 hbytes hbase
  exact ⟨v', w', q1, q2, q3, q5⟩

end

end Go.Proofs.YtbicoknghdgahaaGreat
