/-
  Several texts in one: CopyN, InsRow, AppKeep.
-/
import Derived.Test.YtajeghkjppkhcaaGreatCellsA
import Derived.Laws.CopyRow
import Derived.Laws.CopyOwn
import Derived.Laws.Externs
import Derived.Lib.Overlaps
import Derived.Lib.AppendZerosOnto
import Derived.Deep.RegionLaw
import Derived.Laws.NewBlocks
import Derived.Maps.AppendAt
set_option linter.unusedVariables false
set_option linter.unusedSimpArgs false
/-!
  Laws of no program: copy between rows of structs of several cells; a value laid into a row.
-/

namespace Go.Proofs.YtajeghkjppkhcaaGreat
open Go.RowKit

section
variable {P : Program}
theorem run_copy_rowN (w : World) (dT sT ty elem : TypeId) (size g o dLen dCap : Nat) (a : Addr) (sLen sCap : Nat) (cur : Array Value) (t : TypeId) (cs : List Value)
    (hu : P.underlying dT = some (.slice elem)) (hs : (P.info? elem).map (·.size) = some size)
    (hg : w.heap[g]? = some (.cells cur t (0, 0))) (hn : cs.length = Nat.min sLen dLen * size)
    (hsrc : ∀ j v, cs[j]? = some v → w.cell? (a.add j) = some v) (hfit : o + cs.length ≤ cur.size) (h1 : ∀ v ∈ cs, v.oneCell' = true) :
    (Builtin.copy_ #[dT, sT] ty #[.slice (some ⟨g, o, none⟩) dLen dCap, .slice (some a) sLen sCap]).run P w =
      .ok (goInt ((Nat.min sLen dLen : Nat) : Int)) (w.setRow g (cur.toList.take o ++ cs ++ cur.toList.drop (o + cs.length)).toArray) := by
  have hl := run_loadCells_list (P := P) w a cs hsrc
  have hst := run_storeCells_at P g o t cs 0 cur w hg (by simpa using hfit) h1
  cases hq : P.info? elem with
  | none => simp [hq] at hs
  | some i =>
    have hi : i.size = size := by simpa [hq] using hs
    simp [Builtin.copy_, run_underlying hu, Builtin.lenOf, Builtin.firstCells, sizeOf, typeInfo, hq, hi, ← hn, hl, hst]

/-- the operation copy, where its run is known by an equation -/
theorem wp_copy_eq (w : World) {o : Oper} {a : Act} {K : Act → World → Prop} {Q : Exit → Act → World → Prop} (d s : Operand) (t t' : TypeId)
    (ho : o.op = .call { callee := .builtin .copy, args := #[d, s], argTypes := #[t, t'] }) (v u : Value) (hd : a.eval d = v) (hs : a.eval s = u) {v' : Value} {w' : World}
    (hr : (Builtin.copy_ #[t, t'] o.type #[v, u]).run P w = .ok v' w') (h : K (a.put o.dst v') w') : o.wp P a w K Q := by
  unfold Oper.wp execOp
  simp only [ho, resolve, invoke, builtin, Sem.run_bind, Sem.run_pure, Result.andThen_ok, List.map_toArray, List.map_cons, List.map_nil, hd, hs, hr]
  exact h
theorem wpList_copy_eq (w : World) {ops : Array Oper} {rest : List Oper} {o : Oper} {a : Act} {Q : Exit → Act → World → Prop} (hgd : o.guard = none) (d s : Operand) (t t' : TypeId)
    (ho : o.op = .call { callee := .builtin .copy, args := #[d, s], argTypes := #[t, t'] }) (v u : Value) (hd : a.eval d = v) (hs : a.eval s = u) {v' : Value} {w' : World}
    (hr : (Builtin.copy_ #[t, t'] o.type #[v, u]).run P w = .ok v' w') (h : wpList P ops Q rest (a.put o.dst v') w') : wpList P ops Q (o :: rest) a w :=
  wpList_plain hgd fun _ hK => wp_copy_eq w d s t t' ho v u hd hs hr (hK _ _ h)
end

/-- a value's cells laid in front of the element i of a row -/
def laid (k i : Nat) (vs xs : List Value) : List Value := xs.take (i * k) ++ vs ++ xs.drop (i * k)
theorem laid_length {k i n : Nat} {vs xs : List Value} (hx : xs.length = n * k) (hv : vs.length = k) (hi : i ≤ n) : (laid k i vs xs).length = (n + 1) * k := by
  have : i * k ≤ n * k := Nat.mul_le_mul_right _ hi
  rw [laid, List.length_append, List.length_append, List.length_take, List.length_drop, hx, hv, Nat.add_mul, Nat.one_mul, Nat.min_eq_left this]
  omega
/-- two copies lay a value into a row in place -/
theorem laid_cur {k i n : Nat} {vs xs cur : List Value} (hx : xs.length = n * k) (hv : vs.length = k) (hi : i ≤ n) (hc : (n + 1) * k ≤ cur.length) (ht : cur.take (n * k) = xs) :
    ((cur.take ((i + 1) * k) ++ xs.drop (i * k) ++ cur.drop ((i + 1) * k + (xs.drop (i * k)).length)).take (i * k) ++ vs ++
      (cur.take ((i + 1) * k) ++ xs.drop (i * k) ++ cur.drop ((i + 1) * k + (xs.drop (i * k)).length)).drop (i * k + vs.length)).take ((n + 1) * k) = laid k i vs xs := by
  have h1 : i * k ≤ n * k := Nat.mul_le_mul_right _ hi
  have h2 : (n + 1) * k = n * k + k := by rw [Nat.add_mul, Nat.one_mul]
  have h3 : (i + 1) * k = i * k + k := by rw [Nat.add_mul, Nat.one_mul]
  have hcl : n * k + k ≤ cur.length := by omega
  have e1 : (cur.take ((i + 1) * k)).take (i * k) = xs.take (i * k) := by
    rw [List.take_take, ← ht, List.take_take, Nat.min_eq_left (by omega), Nat.min_eq_left (by omega)]
  have l1 : (cur.take ((i + 1) * k)).length = i * k + k := by rw [List.length_take]; omega
  have e2 : (cur.take ((i + 1) * k)).drop (i * k + k) = [] := List.drop_eq_nil_of_le (by omega)
  rw [hv, List.append_assoc (cur.take ((i + 1) * k))]
  generalize cur.drop ((i + 1) * k + (xs.drop (i * k)).length) = tl
  have hX1 : (cur.take ((i + 1) * k) ++ (xs.drop (i * k) ++ tl)).take (i * k) = xs.take (i * k) := by
    rw [List.take_append_of_le_length (by omega), e1]
  have hX2 : (cur.take ((i + 1) * k) ++ (xs.drop (i * k) ++ tl)).drop (i * k + k) = xs.drop (i * k) ++ tl := by
    rw [List.drop_append_of_le_length (by omega), e2, List.nil_append]
  rw [hX1, hX2, ← List.append_assoc, List.take_left' (by have := laid_length hx hv hi; rw [laid] at this; exact this)]
  rfl

end Go.Proofs.YtajeghkjppkhcaaGreat

/-!
  Laws of no program: out = append(out, zero); copy(out[i+1:], out[i:]); out[i] = v, over rows of structs.
-/

namespace Go.Proofs.YtajeghkjppkhcaaGreat
open Go.RowKit

section
variable {P : Program}
theorem run_copy_zero (w : World) (dT sT ty elem : TypeId) (size : Nat) (A B : Option Addr) (dl dc sLen sc : Nat) (h0 : dl = 0) (hu : P.underlying dT = some (.slice elem)) (hs : (P.info? elem).map (·.size) = some size) :
    (Builtin.copy_ #[dT, sT] ty #[.slice A dl dc, .slice B sLen sc]).run P w = .ok (goInt ((0 : Nat) : Int)) w := by
  subst h0
  cases hq : P.info? elem with
  | none => simp [hq] at hs
  | some i =>
    have hm : Nat.min sLen 0 = 0 := Nat.min_zero _
    cases A with
    | none =>
      cases B with
      | none => simp [Builtin.copy_, run_underlying hu, Builtin.lenOf, Builtin.firstCells, sizeOf, typeInfo, hq, hm]
      | some b =>
        have hl := run_loadCells_list (P := P) w b [] (by simp)
        simp only [List.length_nil] at hl
        simp [Builtin.copy_, run_underlying hu, Builtin.lenOf, Builtin.firstCells, sizeOf, typeInfo, hq, hm, hl]
    | some a =>
      cases B with
      | none => simp [Builtin.copy_, run_underlying hu, Builtin.lenOf, Builtin.firstCells, sizeOf, typeInfo, hq, hm, storeCells]
      | some b =>
        have hl := run_loadCells_list (P := P) w b [] (by simp)
        simp only [List.length_nil] at hl
        simp [Builtin.copy_, run_underlying hu, Builtin.lenOf, Builtin.firstCells, sizeOf, typeInfo, hq, hm, hl, storeCells]

theorem run_storeVar_val (w : World) (g o : Nat) (ty t : TypeId) (v : Value) (cells cur : Array Value) (hv : v.cells = cells) (hg : w.heap[g]? = some (.cells cur t (0, 0))) (hf : o + cells.size ≤ cur.size) (hi : (P.info? ty).map (·.size) = some cells.size) (h1 : ∀ v ∈ cells.toList, v.oneCell' = true) :
    (storeVar ty ⟨g, o, none⟩ v).run P w = .ok () (w.setRow g (cur.toList.take o ++ cells.toList ++ cur.toList.drop (o + cells.toList.length)).toArray) := by
  have := run_storeCells_at P g o t cells.toList 0 cur w hg (by simpa using hf) h1
  cases hq : P.info? ty with
  | none => simp [hq] at hi
  | some i =>
    have hs : cells.size = i.size := by simp [hq] at hi; omega
    simp only [Nat.add_zero] at this
    simp [storeVar, sizeOf, typeInfo, hq, hv, hs, this]
theorem wpList_store_val {ops : Array Oper} {rest : List Oper} {op : Oper} {a : Act} {w : World} {Q : Exit → Act → World → Prop} (hgd : op.guard = none) (ty : TypeId) (x y : Operand) (ho : op.op = .store ty x y)
    (g o : Nat) (t : TypeId) (v : Value) (cells cur ar : Array Value) (hx : a.eval x = .pointer (some ⟨g, o, none⟩)) (hy : a.eval y = v) (hv : v.cells = cells)
    (hg : w.heap[g]? = some (.cells cur t (0, 0))) (hf : o + cells.size ≤ cur.size) (hi : (P.info? ty).map (·.size) = some cells.size) (h1 : ∀ v ∈ cells.toList, v.oneCell' = true) (har : (cur.toList.take o ++ cells.toList ++ cur.toList.drop (o + cells.toList.length)).toArray = ar)
    (h : wpList P ops Q rest (a.put op.dst undef) (w.setRow g ar)) : wpList P ops Q (op :: rest) a w := by
  subst har
  refine wpList_plain hgd fun K hK => ?_
  unfold Oper.wp execOp
  simp only [ho, hx, hy, Instr.storeAt, Instr.sureAddr, Sem.run_bind, Sem.run_pure, Result.andThen_ok, run_storeVar_val w g o ty t v cells cur hv hg hf hi h1]
  exact hK _ _ h
end

theorem insrow_open {w : World} {B : Nat} {e : TypeId} {k n c : Nat} {A : Option Addr} {xs zs : List Value} (hk : 0 < k) (hown : w.ownsRow B e k (.slice A (n + 1) c) (n + 1) (xs ++ zs)) (hx : xs.length = n * k) :
    ∃ (g : Nat) (cur : Array Value), A = some ⟨g, 0, none⟩ ∧ B ≤ g ∧ w.heap[g]? = some (.cells cur e (0, 0)) ∧ n + 1 ≤ c ∧ c ≤ maxLen ∧ cur.size = c * k ∧ cur.toList.take (n * k) = xs := by
  obtain ⟨h1, h | ⟨g, cap, cur, e1, h2, h3, h4, h5, h6, h7⟩⟩ := hown
  · exact absurd h.2 (by omega)
  · cases e1
    refine ⟨g, cur, rfl, h2, h3, h4, h5, h6, ?_⟩
    have : (cur.toList.take ((n + 1) * k)).take (n * k) = (xs ++ zs).take (n * k) := by rw [h7]
    rw [List.take_take, List.take_left' hx, Nat.min_eq_left (by rw [Nat.add_mul]; omega)] at this
    exact this

/-- the row behind the copy -/
def shifted (k i : Nat) (xs : List Value) (cur : Array Value) : Array Value := (cur.toList.take ((i + 1) * k) ++ xs.drop (i * k) ++ cur.toList.drop ((i + 1) * k + (xs.drop (i * k)).length)).toArray
theorem shifted_end {k n : Nat} {xs : List Value} {cur : Array Value} (hx : xs.length = n * k) : shifted k n xs cur = cur := by
  unfold shifted
  rw [List.drop_eq_nil_of_le (by omega : xs.length ≤ n * k)]
  simp
theorem shifted_size {k n i c : Nat} {xs : List Value} {cur : Array Value} (hx : xs.length = n * k) (hc : cur.size = c * k) (hi : i ≤ n) (hnc : n + 1 ≤ c) : (shifted k i xs cur).size = c * k := by
  have h1 : (n + 1) * k ≤ c * k := Nat.mul_le_mul_right _ hnc
  have h2 : i * k ≤ n * k := Nat.mul_le_mul_right _ hi
  unfold shifted
  simp only [List.size_toArray, List.length_append, List.length_take, List.length_drop, Array.length_toList, hc, hx]
  rw [Nat.add_mul, Nat.one_mul] at *
  omega
theorem insrow_copy {P : Program} {w : World} {e dT sT : TypeId} {k n i c g : Nat} {cur : Array Value} {xs : List Value} (hu : P.underlying dT = some (.slice e)) (hs : (P.info? e).map (·.size) = some k) (hg : w.heap[g]? = some (.cells cur e (0, 0))) (hnc : n + 1 ≤ c) (hcs : cur.size = c * k) (hct : cur.toList.take (n * k) = xs)
    (hx : xs.length = n * k) (hi : i < n) (h1 : ∀ u ∈ xs, u.oneCell' = true) (ty : TypeId) (dl dc sl sc : Nat) (hdl : dl = n - i) (hsl : sl = n + 1 - i) :
    (Builtin.copy_ #[dT, sT] ty #[.slice (some ⟨g, (i + 1) * k, none⟩) dl dc, .slice (some ⟨g, i * k, none⟩) sl sc]).run P w = .ok (goInt ((n - i : Nat) : Int)) (w.setRow g (shifted k i xs cur)) := by
  subst hdl hsl
  have hck : (n + 1) * k ≤ c * k := Nat.mul_le_mul_right _ hnc
  have hdl : (xs.drop (i * k)).length = (n - i) * k := by rw [List.length_drop, hx, Nat.sub_mul]
  have hin : i * k ≤ n * k := Nat.mul_le_mul_right _ (by omega)
  have h := run_copy_rowN (P := P) w dT sT ty e k g ((i + 1) * k) (n - i) dc ⟨g, i * k, none⟩ (n + 1 - i) sc cur e (xs.drop (i * k)) hu hs hg
    (by rw [hdl, show Nat.min (n + 1 - i) (n - i) = n - i from Nat.min_eq_right (by omega)])
    (fun j v hj => by
      rw [List.getElem?_drop] at hj
      rw [Addr.add_lit]
      show w.cell? _ = _
      unfold World.cell?
      rw [hg]
      simp only
      have hjl := (List.getElem?_eq_some_iff.1 hj).1
      rw [← hct, List.getElem?_take] at hj
      split at hj
      · simpa using hj
      · cases hj)
    (by rw [hdl, hcs, Nat.sub_mul, Nat.add_mul, Nat.one_mul]; rw [Nat.add_mul, Nat.one_mul] at hck; omega) (fun u hu => h1 u (List.mem_of_mem_drop hu))
  rw [show Nat.min (n + 1 - i) (n - i) = n - i from Nat.min_eq_right (by omega)] at h
  exact h
theorem insrow_close {W : World} {B : Nat} {e : TypeId} {k n i c g : Nat} {cur : Array Value} {xs vs : List Value} (hB : B ≤ g) (hg : W.heap[g]? = some (.cells (shifted k i xs cur) e (0, 0))) (hnc : n + 1 ≤ c) (hcm : c ≤ maxLen) (hcs : cur.size = c * k) (hct : cur.toList.take (n * k) = xs)
    (hx : xs.length = n * k) (hv : vs.length = k) (hi : i ≤ n) :
    (W.setRow g ((shifted k i xs cur).toList.take (i * k) ++ vs ++ (shifted k i xs cur).toList.drop (i * k + vs.length)).toArray).ownsRow B e k (.slice (some ⟨g, 0, none⟩) (n + 1) c) (n + 1) (laid k i vs xs) := by
  have hck : (n + 1) * k ≤ c * k := Nat.mul_le_mul_right _ hnc
  have hin : i * k ≤ n * k := Nat.mul_le_mul_right _ hi
  have hsz := shifted_size (k := k) (i := i) hx hcs hi hnc
  refine ⟨laid_length hx hv hi, .inr ⟨g, c, _, rfl, hB, setRow_heap W g _ _ e (0, 0) hg, hnc, hcm, ?_, ?_⟩⟩
  · simp only [List.size_toArray, List.length_append, List.length_take, List.length_drop, Array.length_toList, hsz, hv]
    rw [Nat.add_mul, Nat.one_mul] at hck
    omega
  · have := laid_cur (i := i) (vs := vs) (cur := cur.toList) hx hv hi (by rw [Array.length_toList, hcs]; exact hck) hct
    simpa [shifted] using this
theorem setRow_same (w : World) (g : Nat) (cs : Array Value) : (w.setRow g cs).os = w.os ∧ (w.setRow g cs).tape = w.tape ∧ (w.setRow g cs).output = w.output ∧ (w.setRow g cs).heap.size = w.heap.size := by
  refine ⟨rfl, rfl, rfl, ?_⟩
  simp [World.setRow]
theorem setRow_other (w : World) (g : Nat) (cs : Array Value) {b : Nat} (h : b ≠ g) : (w.setRow g cs).heap[b]? = w.heap[b]? := by
  unfold World.setRow
  simp only [Array.getElem?_modify]
  rw [if_neg (fun e => h e.symm)]
theorem below_setRow {a w : World} {B g : Nat} (h : Below B a w) (hB : B ≤ g) (cs : Array Value) : Below B a (w.setRow g cs) :=
  ⟨h.os, h.tape, h.output, by rw [(setRow_same _ _ _).2.2.2]; exact h.size, fun b hb => by rw [setRow_other _ _ _ (by omega)]; exact h.block b hb⟩

end Go.Proofs.YtajeghkjppkhcaaGreat

/-!
  Laws of no program: append, and the elder slice still holds what it held.
-/

namespace Go.Proofs.YtajeghkjppkhcaaGreat
open Go.RowKit

section
variable {P : Program}
theorem run_append_keep (w : World) (base : Nat) (t ty e : TypeId) (i : TypeInfo) (z : Value) (size bytes : Nat) (ht : P.underlying t = some (.slice e)) (hi : P.info? e = some i) (hz : i.zero = some z)
    (hsize : i.size = size) (hby : i.bytes = bytes) (hzs : z.cells.size = size) (hsz : 0 < size)
    (v : Value) (n : Nat) (xs : List Value) (hown : w.ownsRow base e size v n xs)
    (a : Addr) (m c : Nat) (news : List Value) (hm : 0 < m) (hl : news.length = m * size) (hnews : ∀ j u, news[j]? = some u → w.cell? (a.add j) = some u) (h1 : ∀ u ∈ news, u.oneCell' = true)
    (h63 : n + m ≤ maxLen) (hbytes : (n + m) * bytes ≤ 140737488355328) (hbase : base ≤ w.heap.size) :
    ∃ v' w', (Builtin.append_ #[t, t] ty #[v, .slice (some a) m c]).run P w = .ok v' w' ∧ w'.ownsRow base e size v' (n + m) (xs ++ news) ∧ w.grownBy w' v.ownBlock ∧ (v'.ownBlock = v.ownBlock ∨ v'.ownBlock = some w.heap.size) ∧ w'.ownsRow base e size v n xs := by
  obtain ⟨v', w', q1, q2, q3, -, q5⟩ := run_append_own_at (P := P) w base t ty e i z size bytes ht hi hz hsize hby hzs hsz v n xs hown a m c news hl hnews h1 h63 hbytes hbase
  refine ⟨v', w', q1, q2, q3, q5, ?_⟩
  subst hsize
  subst hby
  obtain ⟨hxl, ⟨rfl, rfl⟩ | ⟨g, cap, cur, rfl, hbg, hg, hnc, hcm, hcs, htake⟩⟩ := hown
  · rw [Nat.zero_mul] at hxl
    rw [List.eq_nil_of_length_eq_zero hxl]
    exact World.ownsRow_nil _ _ _ _
  · by_cases hroom : n + m ≤ cap
    · have hfit : n * i.size + news.length ≤ cur.size := by rw [hl, hcs, ← Nat.add_mul]; exact Nat.mul_le_mul_right _ hroom
      have hr := run_append_room (P := P) w t ty e i ht hi g n cap cur hg a m c news hl hnews h1 hroom hfit
      rw [q1] at hr
      cases hr
      refine ⟨hxl, .inr ⟨g, cap, _, rfl, hbg, setRow_heap w g cur _ e _ hg, hnc, hcm, ?_, ?_⟩⟩
      · simp only [List.size_toArray, List.length_append, List.length_take, List.length_drop, Array.length_toList]
        omega
      · rw [List.append_assoc, List.take_append_of_le_length (by rw [List.length_take, Array.length_toList]; omega), List.take_take, Nat.min_self]
        exact htake
    · have holds : ∀ j u, xs[j]? = some u → w.cell? ((⟨g, 0, none⟩ : Addr).add j) = some u := World.ownsRow.cells (base := base) (e := e) (size := i.size) (n := n) (v := .slice (some ⟨g, 0, none⟩) n cap) ⟨hxl, .inr ⟨g, cap, cur, rfl, hbg, hg, hnc, hcm, hcs, htake⟩⟩ (g := g) rfl
      have hr := run_append_grow (P := P) w t ty e i z ht hi hz ⟨g, 0, none⟩ n cap xs hxl holds a m c news hl hnews (by omega) (by unfold maxLen at h63; omega) (growslice_fits (by omega) hbytes)
      rw [q1] at hr
      cases hr
      exact ⟨hxl, .inr ⟨g, cap, cur, rfl, hbg, (Below.heap_alloc w.drew _ g (show g < w.drew.heap.size from (Array.getElem?_eq_some_iff.1 hg).1)).trans hg, hnc, hcm, hcs, htake⟩⟩

theorem wp_append_keep {w : World} {o : Oper} {a : Act} {K : Act → World → Prop} {Q : Exit → Act → World → Prop} (s x : Operand) (t : TypeId)
    (ho : o.op = .call { callee := .builtin .append, args := #[s, x], argTypes := #[t, t] })
    (base : Nat) (e : TypeId) (i : TypeInfo) (z : Value) (size bytes : Nat) (ht : P.underlying t = some (.slice e)) (hi : P.info? e = some i) (hz : i.zero = some z)
    (hsize : i.size = size) (hby : i.bytes = bytes) (hzs : z.cells.size = size) (hsz : 0 < size)
    (v : Value) (n : Nat) (xs : List Value) (hs : a.eval s = v) (hown : w.ownsRow base e size v n xs)
    (ad : Addr) (m c : Nat) (news : List Value) (hm : 0 < m) (hx : a.eval x = .slice (some ad) m c) (hl : news.length = m * size) (hnews : ∀ j u, news[j]? = some u → w.cell? (ad.add j) = some u) (h1 : ∀ u ∈ news, u.oneCell' = true)
    (h63 : n + m ≤ maxLen) (hbytes : (n + m) * bytes ≤ 140737488355328) (hbase : base ≤ w.heap.size)
    (h : ∀ v' w', w'.ownsRow base e size v' (n + m) (xs ++ news) → w.grownBy w' v.ownBlock → (v'.ownBlock = v.ownBlock ∨ v'.ownBlock = some w.heap.size) → w'.ownsRow base e size v n xs → K (a.put o.dst v') w') : o.wp P a w K Q := by
  obtain ⟨v', w', hrun, h2, h3, h4, h5⟩ := run_append_keep (P := P) w base t o.type e i z size bytes ht hi hz hsize hby hzs hsz v n xs hown ad m c news hm hl hnews h1 h63 hbytes hbase
  unfold Oper.wp execOp
  simp only [ho, resolve, invoke, builtin, Sem.run_bind, Sem.run_pure, Result.andThen_ok, List.map_toArray, List.map_cons, List.map_nil, hs, hx, hrun]
  exact h v' w' h2 h3 h4 h5
end

end Go.Proofs.YtajeghkjppkhcaaGreat
