/- Parts: PathP, SetP, CopyN, Insert, Search, ElemSetM, FromElem, SetMk, Iter, Pels, MgM. -/
import Derived.Test.YtbicoknghdgahaaGreatKA09
import Derived.Laws.CopyRow
import Derived.Laws.CopyOwn
import Derived.Lib.Overlaps
import Derived.Lib.AppendZerosOnto
import Derived.Deep.RegionLaw
import Derived.Laws.NewBlocks
import Derived.Handy
import Derived.Deep.Slices
set_option linter.unusedVariables false
set_option linter.unusedSimpArgs false
namespace Go.Proofs.YtbicoknghdgahaaGreat

def POk (p : List E) : Prop := ∀ e ∈ p, e.Ok

structure TOrd {α : Type} (c : α → α → Int) (Ok : α → Prop) : Prop where
 self : ∀ {a : α}, Ok a → c a a = 0
 turn : ∀ {a b : α}, Ok a → Ok b → c b a = - c a b
 tr : ∀ {a b d : α}, Ok a → Ok b → Ok d → Tr (c a b) (c b d) (c a d)
theorem E.ord_ : TOrd E.cmp E.Ok := ⟨fun h => E.cmp_self h, fun h k => E.cmp_turn h k, fun h k l => E.cmp_tr h k l⟩
section
variable {α : Type} {c : α → α → Int} {Ok : α → Prop} (O : TOrd c Ok)

def SortC (c : α → α → Int) (l : List α) : Prop := l.Pairwise fun a b => c a b < 0
def insC (c : α → α → Int) (e : α) : List α → List α
 | [] => [e]
 | a :: l => if c a e < 0 then a :: insC c e l else if c a e = 0 then a :: l else e :: a :: l
def cntC (c : α → α → Int) (e : α) : List α → Nat
 | [] => 0
 | a :: l => if c a e < 0 then cntC c e l + 1 else 0
def HasC (c : α → α → Int) (l : List α) (e : α) : Prop := ∃ a ∈ l, c a e = 0
def hasC (c : α → α → Int) (e : α) (l : List α) : Bool := match l[cntC c e l]? with
 | some a => decide (c a e = 0)
 | none => false
theorem cntC_le (e : α) (l : List α) : cntC c e l ≤ l.length := by
 induction l with
 | nil => simp [cntC]
 | cons a l ih => simp only [cntC, List.length_cons]; split <;> omega
include O
theorem TOrd.lt_trans {a b d : α} (ha : Ok a) (hb : Ok b) (hd : Ok d) (h1 : c a b < 0) (h2 : c b d < 0) : c a d < 0 := (O.tr ha hb hd).2 (by omega) (by omega) (.inl h1)
theorem TOrd.lt_le {a b d : α} (ha : Ok a) (hb : Ok b) (hd : Ok d) (h1 : c a b < 0) (h2 : c b d ≤ 0) : c a d < 0 := (O.tr ha hb hd).2 (by omega) (by omega) (.inl h1)
theorem TOrd.eq_trans {a b d : α} (ha : Ok a) (hb : Ok b) (hd : Ok d) (h1 : c a b = 0) (h2 : c b d = 0) : c a d = 0 := (O.tr ha hb hd).1 h1 h2
theorem TOrd.eq_turn {a b : α} (ha : Ok a) (hb : Ok b) (h : c a b = 0) : c b a = 0 := by rw [O.turn ha hb]; omega
theorem TOrd.gt {a b : α} (ha : Ok a) (hb : Ok b) (h1 : ¬ c a b < 0) (h2 : ¬ c a b = 0) : c b a < 0 := by rw [O.turn ha hb]; omega
theorem cntC_lt {e : α} {l : List α} (he : Ok e) (hl : ∀ x ∈ l, Ok x) (hs : SortC c l) : ∀ (i : Nat) a, l[i]? = some a → (c a e < 0 ↔ i < cntC c e l) := by
 induction l with
 | nil => intro i a h; simp at h
 | cons x l ih =>
  obtain ⟨h1, h2⟩ := List.pairwise_cons.1 hs
  have hx := hl x (by simp)
  have hl' : ∀ y ∈ l, Ok y := fun y hy => hl y (by simp [hy])
  intro i a ha
  simp only [cntC]
  cases i with
  | zero =>
   simp at ha
   subst ha
   split <;> rename_i hp <;> simp [hp]
  | succ i =>
   simp only [List.getElem?_cons_succ] at ha
   split
   ·rename_i hp
    rw [ih hl' h2 i a ha]
    omega
   ·rename_i hp
    have hmem := List.mem_of_getElem? ha
    constructor
    ·intro hk
     exact absurd (O.lt_trans hx (hl' a hmem) he (h1 a hmem) hk) hp
    ·intro h; omega
theorem HasC.congr {l : List α} {e e' : α} (hl : ∀ x ∈ l, Ok x) (he : Ok e) (he' : Ok e') (h : c e e' = 0) : HasC c l e ↔ HasC c l e' := by
 constructor
 ·rintro ⟨a, h1, h2⟩; exact ⟨a, h1, O.eq_trans (hl a h1) he he' h2 h⟩
 ·rintro ⟨a, h1, h2⟩; exact ⟨a, h1, O.eq_trans (hl a h1) he' he h2 (O.eq_turn he he' h)⟩
end

end Go.Proofs.YtbicoknghdgahaaGreat

namespace Go.Proofs.YtbicoknghdgahaaGreat

def ecmp (p q : List E) : Int := if p.isEmpty = q.isEmpty then 0 else if p.isEmpty = true then -1 else 1
def wcmp : List E → List E → Int
 | [], [] => 0
 | [], _ :: _ => -1
 | _ :: _, [] => 1
 | a :: p, b :: q => if ecmp p q = 0 then (if E.cmp a b = 0 then wcmp p q else E.cmp a b) else ecmp p q

inductive St where
 | mk (mem : List E) (kids : List (E × St))
def St.mem : St → List E
 | .mk m _ => m
def St.kids : St → List (E × St)
 | .mk _ k => k
def St.empty : St := .mk [] []
mutual
def St.paths : St → List (List E)
 | .mk m ks => m.map (fun e => [e]) ++ St.pathsK ks
def St.pathsK : List (E × St) → List (List E)
 | [] => []
 | (e, s) :: r => s.paths.map (e :: ·) ++ St.pathsK r
end
def St.Has (s : St) (p : List E) : Prop := HasC wcmp s.paths p
def insK (e : E) (f : St → St) : List (E × St) → List (E × St)
 | [] => [(e, f St.empty)]
 | k :: r => if E.cmp k.1 e < 0 then k :: insK e f r else if E.cmp k.1 e = 0 then (k.1, f k.2) :: r else (e, f St.empty) :: k :: r
def St.ins : List E → St → St
 | [], s => s
 | [e], s => .mk (insC E.cmp e s.mem) s.kids
 | e :: x :: p, s => .mk s.mem (insK e (St.ins (x :: p)) s.kids)
end Go.Proofs.YtbicoknghdgahaaGreat

namespace Go.Proofs.YtbicoknghdgahaaGreat
open Go.RowKit

section
variable {P : Program}
theorem run_copy_rowN (w : World) (dT sT ty elem : TypeId) (size g o dLen dCap : Nat) (a : Addr) (sLen sCap : Nat) (cur : Array Value) (t : TypeId) (cs : List Value)
  (hu : P.underlying dT = some (.slice elem)) (hs : (P.info? elem).map (·.size) = some size)
  (hg : w.heap[g]? = some (.cells cur t (0, 0))) (hn : cs.length = Nat.min sLen dLen * size)
  (hsrc : ∀ j v, cs[j]? = some v → w.cell? (a.add j) = some v) (hfit : o + cs.length ≤ cur.size) (h1 : ∀ v ∈ cs, v.oneCell' = true) :
  (Builtin.copy_ #[dT, sT] ty #[.slice (some ⟨g, o, none⟩) dLen dCap, .slice (some a) sLen sCap]).run P w =
   .ok (goInt ((Nat.min sLen dLen : Nat) : Int)) (w.setRow g (cur.toList.take o ++ cs ++ cur.toList.drop (o + cs.length)).toArray) := by
 have hl := run_loadCells_list (P := P) w a cs hsrc
 have hst := run_storeCells_at P g o t cs 0 cur w hg (by simpa using hfit) h1
 cases hq : P.info? elem with
 | none => simp [hq] at hs
 | some i =>
  have hi : i.size = size := by simpa [hq] using hs
  simp [Builtin.copy_, run_underlying hu, Builtin.lenOf, Builtin.firstCells, sizeOf, typeInfo, hq, hi, ← hn, hl, hst]

theorem wp_copy_eq (w : World) {o : Oper} {a : Act} {K : Act → World → Prop} {Q : Exit → Act → World → Prop} (d s : Operand) (t t' : TypeId)
  (ho : o.op = .call { callee := .builtin .copy, args := #[d, s], argTypes := #[t, t'] }) (v u : Value) (hd : a.eval d = v) (hs : a.eval s = u) {v' : Value} {w' : World}
  (hr : (Builtin.copy_ #[t, t'] o.type #[v, u]).run P w = .ok v' w') (h : K (a.put o.dst v') w') : o.wp P a w K Q := by
 unfold Oper.wp execOp
 simp only [ho, resolve, invoke, builtin, Sem.run_bind, Sem.run_pure, Result.andThen_ok, List.map_toArray, List.map_cons, List.map_nil, hd, hs, hr]
 exact h
theorem wpList_copy_eq (w : World) {ops : Array Oper} {rest : List Oper} {o : Oper} {a : Act} {Q : Exit → Act → World → Prop} (hgd : o.guard = none) (d s : Operand) (t t' : TypeId)
  (ho : o.op = .call { callee := .builtin .copy, args := #[d, s], argTypes := #[t, t'] }) (v u : Value) (hd : a.eval d = v) (hs : a.eval s = u) {v' : Value} {w' : World}
  (hr : (Builtin.copy_ #[t, t'] o.type #[v, u]).run P w = .ok v' w') (h : wpList P ops Q rest (a.put o.dst v') w') : wpList P ops Q (o :: rest) a w :=
 wpList_plain hgd fun _ hK => wp_copy_eq w d s t t' ho v u hd hs hr (hK _ _ h)
end

def laid (k i : Nat) (vs xs : List Value) : List Value := xs.take (i * k) ++ vs ++ xs.drop (i * k)
theorem laid_length {k i n : Nat} {vs xs : List Value} (hx : xs.length = n * k) (hv : vs.length = k) (hi : i ≤ n) : (laid k i vs xs).length = (n + 1) * k := by
 have : i * k ≤ n * k := Nat.mul_le_mul_right _ hi
 rw [laid, List.length_append, List.length_append, List.length_take, List.length_drop, hx, hv, Nat.add_mul, Nat.one_mul, Nat.min_eq_left this]
 omega
theorem laid_cur {k i n : Nat} {vs xs cur : List Value} (hx : xs.length = n * k) (hv : vs.length = k) (hi : i ≤ n) (hc : (n + 1) * k ≤ cur.length) (ht : cur.take (n * k) = xs) :
  ((cur.take ((i + 1) * k) ++ xs.drop (i * k) ++ cur.drop ((i + 1) * k + (xs.drop (i * k)).length)).take (i * k) ++ vs ++
   (cur.take ((i + 1) * k) ++ xs.drop (i * k) ++ cur.drop ((i + 1) * k + (xs.drop (i * k)).length)).drop (i * k + vs.length)).take ((n + 1) * k) = laid k i vs xs := by
 have h1 : i * k ≤ n * k := Nat.mul_le_mul_right _ hi
 have h2 : (n + 1) * k = n * k + k := by rw [Nat.add_mul, Nat.one_mul]
 have h3 : (i + 1) * k = i * k + k := by rw [Nat.add_mul, Nat.one_mul]
 have hcl : n * k + k ≤ cur.length := by omega
 have e1 : (cur.take ((i + 1) * k)).take (i * k) = xs.take (i * k) := by
  rw [List.take_take, ← ht, List.take_take, Nat.min_eq_left (by omega), Nat.min_eq_left (by omega)]
 have l1 : (cur.take ((i + 1) * k)).length = i * k + k := by rw [List.length_take]; omega
 have e2 : (cur.take ((i + 1) * k)).drop (i * k + k) = [] := List.drop_eq_nil_of_le (by omega)
 rw [hv, List.append_assoc (cur.take ((i + 1) * k))]
 generalize cur.drop ((i + 1) * k + (xs.drop (i * k)).length) = tl
 have hX1 : (cur.take ((i + 1) * k) ++ (xs.drop (i * k) ++ tl)).take (i * k) = xs.take (i * k) := by
  rw [List.take_append_of_le_length (by omega), e1]
 have hX2 : (cur.take ((i + 1) * k) ++ (xs.drop (i * k) ++ tl)).drop (i * k + k) = xs.drop (i * k) ++ tl := by
  rw [List.drop_append_of_le_length (by omega), e2, List.nil_append]
 rw [hX1, hX2, ← List.append_assoc, List.take_left' (by have := laid_length hx hv hi; rw [laid] at this; exact this)]
 rfl

end Go.Proofs.YtbicoknghdgahaaGreat

namespace Go.Proofs.YtbicoknghdgahaaGreat
open Go.RowKit
attribute [local go_sem] run_store_float

section
variable {F : Nat → Prop} {w : World}
theorem Row.of_bki {g n size : Nat} {cs : List Value} {t : TypeId} (h : Bk w g t cs.toArray) (hl : cs.length = n * size) (hF : F g) : Row F w size (some ⟨g, 0, none⟩) n cs :=
 ⟨hl, fun _ => ⟨g, 0, rfl, hF, fun j u hu => by rw [Nat.zero_add, h.cell]; simpa using hu⟩⟩
end

def InsPost (w : World) (t : TypeId) (k n : Nat) (s : Value) (zs : List Value) (en : Ending) (w' : World) : Prop :=
 ∃ s', en = .returned s' ∧ w'.ownsRow 0 t k s' (n + 1) zs ∧ w.grownBy w' s.ownBlock ∧ (s'.ownBlock = s.ownBlock ∨ ∃ b, s'.ownBlock = some b ∧ w.heap.size ≤ b)

section
variable {P : Program}
theorem run_append_types (t t' e e' ty : TypeId) (ht : P.underlying t = some (.slice e)) (ht' : P.underlying t' = some (.slice e')) (w : World) (u v : Value) : (Builtin.append_ #[t, t'] ty #[u, v]).run P w = (Builtin.append_ #[t, t] ty #[u, v]).run P w := by
 cases u <;> simp [Builtin.append_, run_underlying ht, run_underlying ht']
end

theorem grown_drew {w w' : World} {row : Option Nat} (h : w.drew.grownBy w' row) : w.grownBy w' row := ⟨h.os, h.tape, h.output, h.size, h.block⟩
theorem grown_setRow {w w1 : World} {g : Nat} {cur : Array Value} {t : TypeId} (hw : w.grownBy w1 (some g)) : w.grownBy (w1.setRow g cur) (some g) := by
 have hs : (w1.setRow g cur).heap.size = w1.heap.size := by simp [World.setRow]
 refine ⟨hw.os, hw.tape, hw.output, by rw [hs]; exact hw.size, fun b hb hne => ?_⟩
 rw [← hw.block b hb hne]
 have : g ≠ b := fun e => hne (by rw [e])
 simp [World.setRow, Array.getElem?_modify, this]
theorem grown_setRowNew {w w1 : World} {B : Nat} {cur : Array Value} {row : Option Nat} (hw : w.grownBy w1 row) (hB : w.heap.size ≤ B) : w.grownBy (w1.setRow B cur) row := by
 have hs : (w1.setRow B cur).heap.size = w1.heap.size := by simp [World.setRow]
 refine ⟨hw.os, hw.tape, hw.output, by rw [hs]; exact hw.size, fun b hb hne => ?_⟩
 rw [← hw.block b hb hne]
 have : B ≠ b := by omega
 simp [World.setRow, Array.getElem?_modify, this]
theorem grown_alloc {w w1 : World} {row : Option Nat} {o : Obj} (hw : w.grownBy w1 row) : w.grownBy (w1.alloc o) row :=
 ⟨hw.os, hw.tape, hw.output, by rw [World.size_alloc]; have := hw.size; omega, fun b hb hne => (Below.heap_alloc _ _ _ (Nat.lt_of_lt_of_le hb hw.size)).trans (hw.block b hb hne)⟩
theorem laid_grow {k i n : Nat} {vs xs : List Value} {row0 : List Value} (hx : xs.length = n * k) (hv : vs.length = k) (hi : i ≤ n) (hr : row0.take (i * k) = xs.take (i * k)) (hl : (n + 1) * k ≤ row0.length) :
  (((row0.take (i * k) ++ vs ++ row0.drop (i * k + vs.length)).take ((i + 1) * k) ++ xs.drop (i * k) ++ (row0.take (i * k) ++ vs ++ row0.drop (i * k + vs.length)).drop ((i + 1) * k + (xs.drop (i * k)).length)).take ((n + 1) * k)) = laid k i vs xs := by
 have h1 : i * k ≤ n * k := Nat.mul_le_mul_right _ hi
 have h2 : (n + 1) * k = n * k + k := by rw [Nat.add_mul, Nat.one_mul]
 have h3 : (i + 1) * k = i * k + k := by rw [Nat.add_mul, Nat.one_mul]
 generalize row0.drop (i * k + vs.length) = tl
 generalize (row0.take (i * k) ++ vs ++ tl).drop ((i + 1) * k + (xs.drop (i * k)).length) = tl2
 have e1 : (xs.take (i * k) ++ vs ++ tl).take ((i + 1) * k) = xs.take (i * k) ++ vs := List.take_left' (by rw [List.length_append, List.length_take, hx, hv, Nat.min_eq_left h1, h3])
 rw [hr, e1, List.take_left' (by have := laid_length hx hv hi; rw [laid] at this; exact this)]
 rfl

end Go.Proofs.YtbicoknghdgahaaGreat

namespace Go.Proofs.YtbicoknghdgahaaGreat
open Go.RowKit
attribute [local go_sem] run_store_float

def SearchPost (l : List E) (e : E) (w : World) (en : Ending) (w' : World) : Prop := en = .returned (.tuple #[.int .i64 ((cntC E.cmp e l : Nat) : Int), .bool (hasC E.cmp e l)]) ∧ Below w.heap.size w w'
def BSInv (w : World) (n cnt : Nat) (ts : Array Value) (s9 s10 : Value) (W : World) : Prop := ∃ i j : Nat, s9 = .int .i64 (i : Int) ∧ s10 = .int .i64 (j : Int) ∧ i ≤ cnt ∧ cnt ≤ j ∧ j ≤ n ∧ Bk W w.heap.size 109 ts ∧ Below w.heap.size w W

end Go.Proofs.YtbicoknghdgahaaGreat

namespace Go.Proofs.YtbicoknghdgahaaGreat
open Go.RowKit
attribute [local go_sem] run_store_float

structure Grown2 (w w' : World) (g : Nat) (r : Option Nat) : Prop where
 os : w'.os = w.os
 tape : w'.tape = w.tape
 output : w'.output = w.output
 size : w.heap.size ≤ w'.heap.size
 block : ∀ k, k < w.heap.size → k ≠ g → some k ≠ r → w'.heap[k]? = w.heap[k]?

theorem ownsRow_kept {w w' : World} {e : TypeId} {size n : Nat} {v : Value} {xs : List Value} (h : w.ownsRow 0 e size v n xs) (k : ∀ b, v.ownBlock = some b → w'.heap[b]? = w.heap[b]?) : w'.ownsRow 0 e size v n xs := by
 obtain ⟨h1, h | ⟨g, cap, cur, rfl, h2, h3, h4⟩⟩ := h
 ·exact ⟨h1, .inl h⟩
 ·exact ⟨h1, .inr ⟨g, cap, cur, rfl, h2, (k g rfl).trans h3, h4⟩⟩
theorem setCell_same (w : World) (a : Addr) (v : Value) : (w.setCell a v).os = w.os ∧ (w.setCell a v).tape = w.tape ∧ (w.setCell a v).output = w.output ∧ (w.setCell a v).heap.size = w.heap.size := by
 refine ⟨?_, ?_, ?_, ?_⟩ <;> first | rfl | simp [World.setCell] | (unfold World.setCell; split <;> simp)

theorem Cells.drop_ {α : Type} {n : Nat} {P : α → List Value → Prop} {ls : List α} {xs : List Value} (h : Cells n P ls xs) (m : Nat) : Cells n P (ls.drop m) (xs.drop (m * n)) := by
 have l1 := h.1
 refine ⟨by rw [List.length_drop, List.length_drop, l1, Nat.sub_mul], fun i r hr => ?_⟩
 rw [List.getElem?_drop] at hr
 have := h.2 _ _ hr
 rw [Nat.add_mul, ← List.drop_drop] at this
 exact this

end Go.Proofs.YtbicoknghdgahaaGreat

namespace Go.Proofs.YtbicoknghdgahaaGreat
open Go.RowKit
attribute [local go_sem] run_store_float

theorem Grown2.below {W W' : World} {g : Nat} {r : Option Nat} {B : Nat} (h : Grown2 W W' g r) (hg : B ≤ g) (hr : ∀ b, r = some b → B ≤ b) (hB : B ≤ W.heap.size) : Below B W W' :=
 ⟨h.os, h.tape, h.output, Nat.le_trans hB h.size |> fun _ => h.size, fun b hb => h.block b (by omega) (by omega) fun e => by have := hr b e.symm; omega⟩

end Go.Proofs.YtbicoknghdgahaaGreat

namespace Go.Proofs.YtbicoknghdgahaaGreat
open Go.RowKit

inductive St.Le (n : Nat) : St → Prop
 | mk {m : List E} {ks : List (E × St)} : m.length ≤ n → ks.length ≤ n → (∀ k ∈ ks, St.Le n k.2) → St.Le n (.mk m ks)
theorem St.Le.mono {n n' : Nat} {s : St} (h : s.Le n) (hn : n ≤ n') : s.Le n' := by
 induction h with
 | mk h1 h2 h3 ih => exact .mk (by omega) (by omega) ih
end Go.Proofs.YtbicoknghdgahaaGreat

namespace Go.Proofs.YtbicoknghdgahaaGreat
open Go.RowKit
attribute [local go_sem] run_store_float

inductive St.Ht : Nat → St → Prop
 | mk {n : Nat} {m : List E} {ks : List (E × St)} : (∀ k ∈ ks, St.Ht n k.2) → St.Ht (n + 1) (.mk m ks)
end Go.Proofs.YtbicoknghdgahaaGreat

namespace Go.Proofs.YtbicoknghdgahaaGreat
open Go.RowKit

theorem St.Ht.succ {n : Nat} {s : St} (h : s.Ht n) : s.Ht (n + 1) := by
 induction h with
 | mk h ih => exact .mk ih

end Go.Proofs.YtbicoknghdgahaaGreat

namespace Go.Proofs.YtbicoknghdgahaaGreat
open Go.RowKit
attribute [local go_sem] run_store_float

theorem wpHead_change {P : Program} {ops : Array Oper} {Q : Exit → Act → World → Prop} {md : Region.Mode} {S S2 : World → Prop} {n : Nat} {L : Array Bool → Act → World → Prop} (h12 : ∀ w, S2 w → S w) :
  ∀ (f : Nat) (listed : Array Bool) (a : Act) (w : World), wpHead P md ops Q S2 n L f listed a w → wpHead P md ops Q S n L f listed a w
 | 0, _, _, _, h => h
 | f + 1, listed, a, w, h => ⟨h.1, fun i hi => ⟨(h.2 i hi).1, wpOp_mono (fun a' w' h' => ⟨h12 _ h'.1, wpHead_change h12 f _ a' w' h'.2⟩) (h.2 i hi).2⟩⟩
theorem HT.change {P : Program} {l : List Oper} {Q : Exit → Act → World → Prop} {S S2 : World → Prop} {n f : Nat} {listed : Array Bool} {a : Act} {w : World} (h12 : ∀ w, S2 w → S w) (h : HT P l Q S2 n f listed a w) : HT P l Q S n f listed a w :=
 fun inv => wpHead_change h12 f listed a w (h inv)

end Go.Proofs.YtbicoknghdgahaaGreat
