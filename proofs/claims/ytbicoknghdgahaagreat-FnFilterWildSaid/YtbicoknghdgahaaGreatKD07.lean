/- Parts: InsRow, SpecSetOf, Pels. -/
import Derived.Test.YtbicoknghdgahaaGreatKB14
import Derived.Test.YtbicoknghdgahaaGreatKD06
set_option linter.unusedVariables false
set_option linter.unusedSimpArgs false
namespace Go.Proofs.YtbicoknghdgahaaGreat
open Go.RowKit

section
variable {P : Program}
theorem run_copy_zero (w : World) (dT sT ty elem : TypeId) (size : Nat) (A B : Option Addr) (dl dc sLen sc : Nat) (h0 : dl = 0) (hu : P.underlying dT = some (.slice elem)) (hs : (P.info? elem).map (·.size) = some size) :
  (Builtin.copy_ #[dT, sT] ty #[.slice A dl dc, .slice B sLen sc]).run P w = .ok (goInt ((0 : Nat) : Int)) w := by
 subst h0
 cases hq : P.info? elem with
 | none => simp [hq] at hs
 | some i =>
  have hm : Nat.min sLen 0 = 0 := Nat.min_zero _
  cases A with
  | none =>
   cases B with
   | none => simp [Builtin.copy_, run_underlying hu, Builtin.lenOf, Builtin.firstCells, sizeOf, typeInfo, hq, hm]
   | some b =>
    have hl := run_loadCells_list (P := P) w b [] (by simp)
    simp only [List.length_nil] at hl
    simp [Builtin.copy_, run_underlying hu, Builtin.lenOf, Builtin.firstCells, sizeOf, typeInfo, hq, hm, hl]
  | some a =>
   cases B with
   | none => simp [Builtin.copy_, run_underlying hu, Builtin.lenOf, Builtin.firstCells, sizeOf, typeInfo, hq, hm, storeCells]
   | some b =>
    have hl := run_loadCells_list (P := P) w b [] (by simp)
    simp only [List.length_nil] at hl
    simp [Builtin.copy_, run_underlying hu, Builtin.lenOf, Builtin.firstCells, sizeOf, typeInfo, hq, hm, hl, storeCells]

theorem run_storeVar_val (w : World) (g o : Nat) (ty t : TypeId) (v : Value) (cells cur : Array Value) (hv : v.cells = cells) (hg : w.heap[g]? = some (.cells cur t (0, 0))) (hf : o + cells.size ≤ cur.size) (hi : (P.info? ty).map (·.size) = some cells.size) (h1 : ∀ v ∈ cells.toList, v.oneCell' = true) :
  (storeVar ty ⟨g, o, none⟩ v).run P w = .ok () (w.setRow g (cur.toList.take o ++ cells.toList ++ cur.toList.drop (o + cells.toList.length)).toArray) := by
 have := run_storeCells_at P g o t cells.toList 0 cur w hg (by simpa using hf) h1
 cases hq : P.info? ty with
 | none => simp [hq] at hi
 | some i =>
  have hs : cells.size = i.size := by simp [hq] at hi; omega
  simp only [Nat.add_zero] at this
  simp [storeVar, sizeOf, typeInfo, hq, hv, hs, this]
theorem wpList_store_val {ops : Array Oper} {rest : List Oper} {op : Oper} {a : Act} {w : World} {Q : Exit → Act → World → Prop} (hgd : op.guard = none) (ty : TypeId) (x y : Operand) (ho : op.op = .store ty x y)
  (g o : Nat) (t : TypeId) (v : Value) (cells cur ar : Array Value) (hx : a.eval x = .pointer (some ⟨g, o, none⟩)) (hy : a.eval y = v) (hv : v.cells = cells)
  (hg : w.heap[g]? = some (.cells cur t (0, 0))) (hf : o + cells.size ≤ cur.size) (hi : (P.info? ty).map (·.size) = some cells.size) (h1 : ∀ v ∈ cells.toList, v.oneCell' = true) (har : (cur.toList.take o ++ cells.toList ++ cur.toList.drop (o + cells.toList.length)).toArray = ar)
  (h : wpList P ops Q rest (a.put op.dst undef) (w.setRow g ar)) : wpList P ops Q (op :: rest) a w := by
 subst har
 refine wpList_plain hgd fun K hK => ?_
 unfold Oper.wp execOp
 simp only [ho, hx, hy, Instr.storeAt, Instr.sureAddr, Sem.run_bind, Sem.run_pure, Result.andThen_ok, run_storeVar_val w g o ty t v cells cur hv hg hf hi h1]
 exact hK _ _ h
end

theorem insrow_open {w : World} {B : Nat} {e : TypeId} {k n c : Nat} {A : Option Addr} {xs zs : List Value} (hk : 0 < k) (hown : w.ownsRow B e k (.slice A (n + 1) c) (n + 1) (xs ++ zs)) (hx : xs.length = n * k) :
  ∃ (g : Nat) (cur : Array Value), A = some ⟨g, 0, none⟩ ∧ B ≤ g ∧ w.heap[g]? = some (.cells cur e (0, 0)) ∧ n + 1 ≤ c ∧ c ≤ maxLen ∧ cur.size = c * k ∧ cur.toList.take (n * k) = xs := by
 obtain ⟨h1, h | ⟨g, cap, cur, e1, h2, h3, h4, h5, h6, h7⟩⟩ := hown
 ·exact absurd h.2 (by omega)
 ·cases e1
  refine ⟨g, cur, rfl, h2, h3, h4, h5, h6, ?_⟩
  have : (cur.toList.take ((n + 1) * k)).take (n * k) = (xs ++ zs).take (n * k) := by rw [h7]
  rw [List.take_take, List.take_left' hx, Nat.min_eq_left (by rw [Nat.add_mul]; omega)] at this
  exact this

def shifted (k i : Nat) (xs : List Value) (cur : Array Value) : Array Value := (cur.toList.take ((i + 1) * k) ++ xs.drop (i * k) ++ cur.toList.drop ((i + 1) * k + (xs.drop (i * k)).length)).toArray
theorem shifted_end {k n : Nat} {xs : List Value} {cur : Array Value} (hx : xs.length = n * k) : shifted k n xs cur = cur := by
 unfold shifted
 rw [List.drop_eq_nil_of_le (by omega : xs.length ≤ n * k)]
 simp
theorem shifted_size {k n i c : Nat} {xs : List Value} {cur : Array Value} (hx : xs.length = n * k) (hc : cur.size = c * k) (hi : i ≤ n) (hnc : n + 1 ≤ c) : (shifted k i xs cur).size = c * k := by
 have h1 : (n + 1) * k ≤ c * k := Nat.mul_le_mul_right _ hnc
 have h2 : i * k ≤ n * k := Nat.mul_le_mul_right _ hi
 unfold shifted
 simp only [List.size_toArray, List.length_append, List.length_take, List.length_drop, Array.length_toList, hc, hx]
 rw [Nat.add_mul, Nat.one_mul] at *
 omega
theorem insrow_copy {P : Program} {w : World} {e dT sT : TypeId} {k n i c g : Nat} {cur : Array Value} {xs : List Value} (hu : P.underlying dT = some (.slice e)) (hs : (P.info? e).map (·.size) = some k) (hg : w.heap[g]? = some (.cells cur e (0, 0))) (hnc : n + 1 ≤ c) (hcs : cur.size = c * k) (hct : cur.toList.take (n * k) = xs)
  (hx : xs.length = n * k) (hi : i < n) (h1 : ∀ u ∈ xs, u.oneCell' = true) (ty : TypeId) (dl dc sl sc : Nat) (hdl : dl = n - i) (hsl : sl = n + 1 - i) :
  (Builtin.copy_ #[dT, sT] ty #[.slice (some ⟨g, (i + 1) * k, none⟩) dl dc, .slice (some ⟨g, i * k, none⟩) sl sc]).run P w = .ok (goInt ((n - i : Nat) : Int)) (w.setRow g (shifted k i xs cur)) := by
 subst hdl hsl
 have hck : (n + 1) * k ≤ c * k := Nat.mul_le_mul_right _ hnc
 have hdl : (xs.drop (i * k)).length = (n - i) * k := by rw [List.length_drop, hx, Nat.sub_mul]
 have hin : i * k ≤ n * k := Nat.mul_le_mul_right _ (by omega)
 have h := run_copy_rowN (P := P) w dT sT ty e k g ((i + 1) * k) (n - i) dc ⟨g, i * k, none⟩ (n + 1 - i) sc cur e (xs.drop (i * k)) hu hs hg
  (by rw [hdl, show Nat.min (n + 1 - i) (n - i) = n - i from Nat.min_eq_right (by omega)])
  (fun j v hj => by
   rw [List.getElem?_drop] at hj
   rw [Addr.add_lit]
   show w.cell? _ = _
   unfold World.cell?
   rw [hg]
   simp only
   have hjl := (List.getElem?_eq_some_iff.1 hj).1
   rw [← hct, List.getElem?_take] at hj
   split at hj
   ·simpa using hj
   ·cases hj)
  (by rw [hdl, hcs, Nat.sub_mul, Nat.add_mul, Nat.one_mul]; rw [Nat.add_mul, Nat.one_mul] at hck; omega) (fun u hu => h1 u (List.mem_of_mem_drop hu))
 rw [show Nat.min (n + 1 - i) (n - i) = n - i from Nat.min_eq_right (by omega)] at h
 exact h
theorem insrow_close {W : World} {B : Nat} {e : TypeId} {k n i c g : Nat} {cur : Array Value} {xs vs : List Value} (hB : B ≤ g) (hg : W.heap[g]? = some (.cells (shifted k i xs cur) e (0, 0))) (hnc : n + 1 ≤ c) (hcm : c ≤ maxLen) (hcs : cur.size = c * k) (hct : cur.toList.take (n * k) = xs)
  (hx : xs.length = n * k) (hv : vs.length = k) (hi : i ≤ n) :
  (W.setRow g ((shifted k i xs cur).toList.take (i * k) ++ vs ++ (shifted k i xs cur).toList.drop (i * k + vs.length)).toArray).ownsRow B e k (.slice (some ⟨g, 0, none⟩) (n + 1) c) (n + 1) (laid k i vs xs) := by
 have hck : (n + 1) * k ≤ c * k := Nat.mul_le_mul_right _ hnc
 have hin : i * k ≤ n * k := Nat.mul_le_mul_right _ hi
 have hsz := shifted_size (k := k) (i := i) hx hcs hi hnc
 refine ⟨laid_length hx hv hi, .inr ⟨g, c, _, rfl, hB, setRow_heap W g _ _ e (0, 0) hg, hnc, hcm, ?_, ?_⟩⟩
 ·simp only [List.size_toArray, List.length_append, List.length_take, List.length_drop, Array.length_toList, hsz, hv]
  rw [Nat.add_mul, Nat.one_mul] at hck
  omega
 ·have := laid_cur (i := i) (vs := vs) (cur := cur.toList) hx hv hi (by rw [Array.length_toList, hcs]; exact hck) hct
  simpa [shifted] using this
theorem setRow_same (w : World) (g : Nat) (cs : Array Value) : (w.setRow g cs).os = w.os ∧ (w.setRow g cs).tape = w.tape ∧ (w.setRow g cs).output = w.output ∧ (w.setRow g cs).heap.size = w.heap.size := by
 refine ⟨rfl, rfl, rfl, ?_⟩
 simp [World.setRow]
theorem setRow_other (w : World) (g : Nat) (cs : Array Value) {b : Nat} (h : b ≠ g) : (w.setRow g cs).heap[b]? = w.heap[b]? := by
 unfold World.setRow
 simp only [Array.getElem?_modify]
 rw [if_neg (fun e => h e.symm)]
theorem below_setRow {a w : World} {B g : Nat} (h : Below B a w) (hB : B ≤ g) (cs : Array Value) : Below B a (w.setRow g cs) :=
 ⟨h.os, h.tape, h.output, by rw [(setRow_same _ _ _).2.2.2]; exact h.size, fun b hb => by rw [setRow_other _ _ _ (by omega)]; exact h.block b hb⟩

end Go.Proofs.YtbicoknghdgahaaGreat

namespace Go.Proofs.YtbicoknghdgahaaGreat
open Go.RowKit
attribute [local go_sem] run_store_float

theorem insrow_copy' {P : Program} {w : World} {e dT sT : TypeId} {k n i c g o1 o2 : Nat} {cur : Array Value} {xs : List Value} (hu : P.underlying dT = some (.slice e)) (hs : (P.info? e).map (·.size) = some k) (hg : w.heap[g]? = some (.cells cur e (0, 0))) (hnc : n + 1 ≤ c) (hcs : cur.size = c * k) (hct : cur.toList.take (n * k) = xs)
  (hx : xs.length = n * k) (hi : i < n) (h1 : ∀ u ∈ xs, u.oneCell' = true) (ty : TypeId) (dl dc sl sc : Nat) (hdl : dl = n - i) (hsl : sl = n + 1 - i) (ho1 : o1 = (i + 1) * k) (ho2 : o2 = i * k) :
  (Builtin.copy_ #[dT, sT] ty #[.slice (some ⟨g, o1, none⟩) dl dc, .slice (some ⟨g, o2, none⟩) sl sc]).run P w = .ok (goInt ((n - i : Nat) : Int)) (w.setRow g (shifted k i xs cur)) := by
 subst ho1 ho2
 exact insrow_copy hu hs hg hnc hcs hct hx hi h1 ty dl dc sl sc hdl hsl

def specS (l : List (List E)) : List (List E) := l.foldl (fun a p => if p = [] then a else insC wcmp p a) []
theorem specS_snoc (l : List (List E)) (p : List E) : specS (l ++ [p]) = if p = [] then specS l else insC wcmp p (specS l) := by simp [specS]
theorem specS_props : ∀ {l : List (List E)}, (∀ p ∈ l, POk p) → ∀ a : List (List E), (∀ p ∈ a, POk p) → SortC wcmp a → (∀ p ∈ l.foldl (fun a p => if p = [] then a else insC wcmp p a) a, POk p) ∧ SortC wcmp (l.foldl (fun a p => if p = [] then a else insC wcmp p a) a) ∧ (l.foldl (fun a p => if p = [] then a else insC wcmp p a) a).length ≤ a.length + l.length ∧
  (∀ x, POk x → (HasC wcmp (l.foldl (fun a p => if p = [] then a else insC wcmp p a) a) x ↔ HasC wcmp a x ∨ ∃ p ∈ l, p ≠ [] ∧ wcmp p x = 0)) ∧ (∀ p ∈ l.foldl (fun a p => if p = [] then a else insC wcmp p a) a, p ∈ a ∨ (p ∈ l ∧ p ≠ []))
 | [], _, a, ha, hs => ⟨ha, hs, by simp, fun x _ => by simp, fun p hp => .inl hp⟩
 | p :: l, h, a, ha, hs => by
  have hp := h p (by simp)
  have hl : ∀ q ∈ l, POk q := fun q hq => h q (List.mem_cons_of_mem _ hq)
  rw [List.foldl_cons]
  by_cases hp0 : p = []
  ·rw [if_pos hp0]
   obtain ⟨h1, h2, h3, h4, h5⟩ := specS_props hl a ha hs
   refine ⟨h1, h2, by rw [List.length_cons]; omega, fun x hx => ?_, fun q hq => ?_⟩
   ·rw [h4 x hx]
    constructor
    ·rintro (h6 | ⟨q, h6, h7, h8⟩)
     ·exact .inl h6
     ·exact .inr ⟨q, by simp [h6], h7, h8⟩
    ·rintro (h6 | ⟨q, h6, h7, h8⟩)
     ·exact .inl h6
     ·rcases List.mem_cons.1 h6 with rfl | h6
      ·exact absurd hp0 h7
      ·exact .inr ⟨q, h6, h7, h8⟩
   ·rcases h5 q hq with h6 | ⟨h6, h7⟩
    ·exact .inl h6
    ·exact .inr ⟨by simp [h6], h7⟩
  ·rw [if_neg hp0]
   obtain ⟨h1, h2, h3, h4, h5⟩ := specS_props hl (insC wcmp p a) (insC_ok hp ha) (insC_sorted wcmp_ord hp ha hs)
   have := insC_length (c := wcmp) p a
   refine ⟨h1, h2, by rw [List.length_cons]; omega, fun x hx => ?_, fun q hq => ?_⟩
   ·rw [h4 x hx, HasC_insC wcmp_ord hp hx ha]
    constructor
    ·rintro ((h6 | h6) | ⟨q, h6, h7, h8⟩)
     ·exact .inr ⟨p, by simp, hp0, h6⟩
     ·exact .inl h6
     ·exact .inr ⟨q, by simp [h6], h7, h8⟩
    ·rintro (h6 | ⟨q, h6, h7, h8⟩)
     ·exact .inl (.inr h6)
     ·rcases List.mem_cons.1 h6 with rfl | h6
      ·exact .inl (.inl h8)
      ·exact .inr ⟨q, h6, h7, h8⟩
   ·rcases h5 q hq with h6 | ⟨h6, h7⟩
    ·rcases mem_insC h6 with rfl | h6
     ·exact .inr ⟨by simp, hp0⟩
     ·exact .inl h6
    ·exact .inr ⟨by simp [h6], h7⟩
theorem specS_ok {l : List (List E)} (h : ∀ p ∈ l, POk p) : (∀ p ∈ specS l, POk p) ∧ SortC wcmp (specS l) ∧ (specS l).length ≤ l.length := by
 obtain ⟨h1, h2, h3, -, -⟩ := specS_props h [] (by simp) List.Pairwise.nil
 rw [List.length_nil, Nat.zero_add] at h3
 exact ⟨h1, h2, h3⟩
theorem specS_has {l : List (List E)} (h : ∀ p ∈ l, POk p) {x : List E} (hx : POk x) : HasC wcmp (specS l) x ↔ ∃ p ∈ l, p ≠ [] ∧ wcmp p x = 0 := by
 have h4 := (specS_props h [] (by simp) List.Pairwise.nil).2.2.2.1 x hx
 rw [show HasC wcmp (specS l) x ↔ _ from h4]
 simp [HasC]
theorem specS_mem {l : List (List E)} (h : ∀ p ∈ l, POk p) {p : List E} (hp : p ∈ specS l) : p ∈ l ∧ p ≠ [] := by
 rcases (specS_props h [] (by simp) List.Pairwise.nil).2.2.2.2 p hp with h1 | h1
 ·simp at h1
 ·exact h1
def SOInv (w : World) (ps : List (List E)) (s3 s9 : Value) (W : World) : Prop :=
 ∃ (k : Nat) (us : List Value), s9 = .int .i64 (k : Int) ∧ k ≤ ps.length ∧ W.ownsRow w.heap.size 22 1 s3 (specS (ps.take k)).length us ∧ Cells 1 (PQ (FrX w.heap.size W s3) W) ((specS (ps.take k)).map (List.map E.toREl)) us ∧ Below w.heap.size w W

set_option maxRecDepth 100000 in
set_option maxHeartbeats 8000000 in
theorem setOf_calls {ls : List (List REl)} {A : Option Addr} {c : Nat} {w : World} (h : PathsAt (Old w) w ls A c) (hok : ∀ p ∈ pels ls, POk p) : Calls Tryz.prog 23 #[.slice A ls.length c] w (GivesPaths ((specS (pels ls)).map (List.map E.toREl)) w) := by
 obtain ⟨h1, h2, h3, xs, h4, h5⟩ := h
 have h1' : ls.length * 24 ≤ 140737488351232 := h1
 obtain ⟨i9, hi9, hz9, hs9, hb9⟩ := info_parts paths_info
 have H7 := hide (And.intro h4 h5)
 have Hok := hide hok
 have Hpl := hide (show (pels ls).length = ls.length from List.length_map _)
 clear h1 h4 h5 hok
 go_enter Tryz.func23, Tryz.ntmps23
 go_wp2_with fail
 go_loopw [3, 10] (fun s3 s9 W => SOInv w (pels ls) s3 s9 W) (fun _ s _ => ls.length - (intOf s).toNat)
 case atStart => exact ⟨0, [], rfl, Nat.zero_le _, World.ownsRow_nil _ _ _ _, Cells.nil_, Below.refl _ _⟩
 case round =>
  obtain ⟨k, us, rfl, hk, hown, hus, hb⟩ := hrel
  rw [Hpl.out] at hk
  by_cases hlt : k < ls.length
  ·have hki0 : (0 : Int) ≤ (k : Int) := Int.natCast_nonneg _
   have hki1 : (k : Int) < (ls.length : Int) := by omega
   have hx := H7.out.2.at_ hlt
   have hsn : (pels ls).take (k + 1) = (pels ls).take k ++ [pel ls[k]] := by rw [List.take_succ_eq_append_getElem (by rw [Hpl.out]; exact hlt)]; simp [pels]
   have heo : POk (pel ls[k]) := Hok.out _ (by simp [pels]; exact ⟨_, List.getElem_mem _, rfl⟩)
   have hok1 : ∀ p ∈ (pels ls).take k, POk p := fun p hp => Hok.out p (List.mem_of_mem_take hp)
   have hpk := specS_ok hok1
   have hws : ∀ p ∈ specS ((pels ls).take k), PWS p := fun p hp => pels_pws (List.mem_of_mem_take (specS_mem hok1 hp).1)
   have hse : specS ((pels ls).take (k + 1)) = if pel ls[k] = [] then specS ((pels ls).take k) else insC wcmp (pel ls[k]) (specS ((pels ls).take k)) := by rw [hsn, specS_snoc]
   have hlk : (specS ((pels ls).take k)).length ≤ k := by have := hpk.2.2; rw [List.length_take, Hpl.out] at this; omega
   clear hsn hok1
   have hpk := And.intro hpk.1 hpk.2.1
   generalize ls[k] = x at *
   generalize specS ((pels ls).take k) = S at *
   obtain ⟨n, hn⟩ : ∃ n, S.length = n := ⟨_, rfl⟩
   rw [hn] at hown hlk
   have Hn := hide hn
   obtain ⟨oA, oc, rfl, hoc1, hoc2⟩ := own_form hown
   obtain ⟨B, d, ecs, hx⟩ := hx
   obtain ⟨rb, ro, rfl, hF, hc⟩ := rown_at H7.out.1 hlt ecs
   have m0 := ((bcell hb).1 _ _ hF).trans (hc 0 _ rfl)
   rw [Nat.mul_one, Nat.add_zero] at m0
   have hrb : rb < w.heap.size := hF
   obtain ⟨wo, hwo⟩ : ∃ W, W = wr := ⟨_, rfl⟩
   subst hwo
   have hwe : w.heap.size ≤ wo.heap.size := hb.size
   have hx47 : x.length * 168 ≤ 140737488351232 := hx.1
   by_cases hx0 : x = []
   ·subst hx0
    rw [if_pos (show pel [] = [] from rfl)] at hse
    have Hfin := hide (show wo.ownsRow w.heap.size 22 1 (.slice oA n oc) (specS ((pels ls).take (k + 1))).length us ∧ Cells 1 (PQ (FrX w.heap.size wo (.slice oA n oc)) wo) ((specS ((pels ls).take (k + 1))).map (List.map E.toREl)) us ∧ Below w.heap.size w wo from by rw [hse, hn]; exact ⟨hown, hus, hb⟩)
    clear hown hus hb hx ecs hc hF hpk hws hse heo hn
    go_wp2_with fail
    exact ⟨⟨k + 1, us, by go_num, by rw [Hpl.out]; omega, Hfin.out.1, Hfin.out.2.1, Hfin.out.2.2⟩, by simp [intOf]; omega⟩
   have hpx0 : ¬ pel x = [] := fun e => hx0 (by cases x with | nil => rfl | cons a l => simp [pel] at e)
   rw [if_neg hpx0] at hse
   have hxl : ¬ (x.length : Int) = 0 := by
    cases x with
    | nil => exact absurd rfl hx0
    | cons a l => simp; omega
   have hxb : ((x.length : Int) == 0) = false := beq_eq_false_iff_ne.2 hxl
   have hback := pelsP_back hws
   have hrows : PathsAt (Old wo) wo (S.map (List.map E.toREl)) oA oc := ⟨by rw [List.length_map, hn]; unfold R47; omega, by rw [List.length_map, hn]; exact hoc1, hoc2, us, by rw [List.length_map, hn]; exact Row.of_own hown fun b hb => (hown.lt b hb).2, hus.mono fun a cs h => PQ.mono h fun b hb => hb.2.1⟩
   have HP := hide (place_calls hrows (hx.at_ hb) (by rw [hback]; exact hpk.1) heo (by rw [hback]; exact hpk.2))
   rw [hback, List.length_map, hn] at HP
   have hcn := cntC_le (c := wcmp) (pel x) S
   rw [hn] at hcn
   have Hones := hide (pq_ones hus)
   have Hclean := hide fun (W : World) (hb : Below w.heap.size w W) => cleanPath_calls (hx.at_ hb)
   have Hq := hide (And.intro hown (And.intro hus (And.intro (show us.length = n * 1 from hown.1) (And.intro hb (And.intro hpk (And.intro hws (And.intro hse heo)))))))
   clear hown hus hb hx ecs hc hF hpk hws hse heo hn hx0 hpx0 hback hrows
   obtain ⟨hh, hhe⟩ : ∃ hh, hasC wcmp (pel x) S = hh := ⟨_, rfl⟩
   have hins0 := insC_eq (c := wcmp) (pel x) S
   rw [hhe] at HP hins0
   generalize cntC wcmp (pel x) S = cnt at *
   have Hins0 := hide hins0
   clear hins0 hhe
   go_wp2_with fail
   refine HP.out.mono ?_
   rintro en wx ⟨rfl, hbx⟩
   have Hx := hide hbx
   have hwx : wo.heap.size ≤ wx.heap.size := hbx.size
   clear hbx HP m0
   cases hh
   case true =>
    have hfin : wx.ownsRow w.heap.size 22 1 (.slice oA n oc) (specS ((pels ls).take (k + 1))).length us ∧ Cells 1 (PQ (FrX w.heap.size wx (.slice oA n oc)) wx) ((specS ((pels ls).take (k + 1))).map (List.map E.toREl)) us ∧ Below w.heap.size w wx := by
     rw [Hq.out.2.2.2.2.2.2.1, Hins0.out, if_pos rfl, Hn.out]
     exact ⟨ownsRow_below Hq.out.1 Hx.out (Nat.le_refl _), Hq.out.2.1.mono fun a cs h => PQ.mono (PQ.keeps h (Keeps.below Hx.out fun b hb => hb.2.1)) fun b hb => ⟨hb.1, Nat.lt_of_lt_of_le hb.2.1 Hx.out.size, hb.2.2⟩, Hq.out.2.2.2.1.trans (Hx.out.mono Hq.out.2.2.2.1.size)⟩
    have Hfin := hide hfin
    clear hfin
    go_wp2_with fail
    exact ⟨⟨k + 1, us, by go_num, by rw [Hpl.out]; omega, Hfin.out.1, Hfin.out.2.1, Hfin.out.2.2⟩, by simp [intOf]; omega⟩
   case false =>
    have hins : insC wcmp (pel x) S = S.take cnt ++ pel x :: S.drop cnt := by rw [Hins0.out, if_neg (by decide)]
    have Hins := hide hins
    clear hins Hins0
    go_wp2_with (at_builtin; go_loud (refine wpList_append_row _ rfl (.tmp 24) (.tmp 25) 36 rfl w.heap.size 22 i9 _ 1 24 Tryz.underlying36 hi9 hz9 hs9 hb9 rfl (by omega) _ n us rfl ((ownsRow_below Hq.out.1 Hx.out (Nat.le_refl _)).alloc _) (fun _ => True) (some ⟨wx.heap.size, 0, none⟩) 1 1 [.slice none 0 0] rfl (Row.of_bkp (Bk.new wx 22 ([.slice none 0 0] : List Value).toArray) rfl trivial) (by simp [Value.oneCell']) (by omega) (by omega) (by rw [World.size_alloc]; omega) ?_))
    intro out' w3 hown3 hg3 hat3
    obtain ⟨oA', oc', rfl, hoc1, hoc2⟩ := own_form hown3
    obtain ⟨g, cur, rfl, hgB, hgc, hnc, hcm, hcs, hct⟩ := insrow_open (k := 1) (by decide) hown3 Hq.out.2.2.1
    have hcm' : oc' ≤ 9223372036854775807 := hcm
    have hlo := Hq.out.1.lt
    have hb3 : Below w.heap.size w w3 := ((Hq.out.2.2.2.1.trans (Hx.out.mono Hq.out.2.2.2.1.size)).alloc (by omega) _).grown hg3 (by rw [World.size_alloc]; omega) fun k e => (hlo k e).1
    have hkO : ∀ b, FrX w.heap.size wo (.slice oA n oc) b → w3.heap[b]? = wo.heap[b]? ∧ b ≠ g ∧ b < w3.heap.size := by
     rintro b ⟨q1, q2, q3⟩
     have h2 := hg3.size
     rw [World.size_alloc] at h2
     refine ⟨by rw [hg3.block b (by rw [World.size_alloc]; omega) q3, Below.heap_alloc _ _ _ (by omega), Hx.out.block b q2], ?_, by omega⟩
     rcases hat3 with e | e
     ·intro e2; subst e2; exact q3 e
     ·intro e2; have e3 := Option.some.inj e; have e4 : g = _ := e3; omega
    have H3 := hide (And.intro hgc (And.intro hb3 hkO))
    have Hcur := hide (And.intro hcs hct)
    have hgl3 := (Array.getElem?_eq_some_iff.1 hgc).1
    have hw30 : w.heap.size ≤ w3.heap.size := hb3.size
    clear hown3 hg3 hat3 hgc hcs hct hb3 hlo hkO
    have hii : (0 : Int) ≤ (cnt : Int) := by omega
    have hii1 : (0 : Int) ≤ (cnt : Int) + 1 := by omega
    have hin : (cnt : Int) ≤ (n : Int) := by omega
    have hw1 : IntKind.i64.wrap ((cnt : Int) + 1) = (cnt : Int) + 1 := IntWalk.i64_in _ (by omega)
    have htn : ((cnt : Int) + 1 : Int).toNat = cnt + 1 := by omega
    have hle1 : (cnt : Int) + 1 ≤ (n : Int) + 1 := by omega
    have hle2 : (cnt : Int) ≤ (n : Int) + 1 := by omega
    have hlt3 : (cnt : Int) < (n : Int) + 1 := by omega
    have hlc : (n : Int) + 1 ≤ (oc' : Int) := by omega
    by_cases hend : n = cnt
    ·have Hend := hide hend
     have hend1 : n ≤ cnt := by omega
     clear hend
     have hb4 : ¬ oc' = cnt := by omega
     by_cases hcap : oc' = cnt + 1
     ·subst hcap
      go_wp2_with fail
      go_still_tail 7, (by kernel_rfl)
      change wpList _ _ _ _ _ w3.drew
      refine wpList_copy_eq _ rfl _ _ 36 36 rfl _ _ rfl rfl (run_copy_zero w3.drew 36 36 _ 22 1 _ _ _ _ _ _ (by have := Hend.out; omega) Tryz.underlying36 (by kernel_rfl)) ?_
      have hsh : shifted 1 cnt us cur = cur := by rw [show cnt = n from Hend.out.symm]; exact shifted_end Hq.out.2.2.1
      have H4 := hide (show Below w.heap.size w w3.drew ∧ w3.drew.heap[g]? = some (.cells (shifted 1 cnt us cur) 22 (0, 0)) ∧ (∀ b, FrX w.heap.size wo (.slice oA n oc) b → w3.drew.heap[b]? = wo.heap[b]? ∧ b ≠ g ∧ b < w3.drew.heap.size) ∧ g < w3.drew.heap.size ∧ True from
       ⟨below_drew H3.out.2.1, by rw [hsh]; exact H3.out.1, H3.out.2.2, hgl3, trivial⟩)
      clear hsh H3
      clear hii1 hw1 htn hle1 hle2 hin
      generalize w3.drew = w4 at *

      have hg4l := H4.out.2.2.2.1
      go_wp2_with fail
      refine (Hclean.out w4 H4.out.1).mono ?_
      rintro en w5 ⟨B', d', rfl, hpp, hb5⟩
      obtain ⟨pn, hpn⟩ : ∃ pn, ((pel x).map E.toREl).length = pn := ⟨_, rfl⟩
      have hg5 : w5.heap[g]? = some (.cells (shifted 1 cnt us cur) 22 (0, 0)) := (hb5.block g hg4l).trans H4.out.2.1
      have hsz5 := shifted_size (k := 1) (i := cnt) Hq.out.2.2.1 Hcur.out.1 hcn hnc
      obtain ⟨ar, har⟩ : ∃ ar, ((shifted 1 cnt us cur).toList.take (cnt * 1) ++ ([.slice B' pn d'] : List Value) ++ (shifted 1 cnt us cur).toList.drop (cnt * 1 + ([.slice B' pn d'] : List Value).length)).toArray = ar := ⟨_, rfl⟩
      have hfin := insrow_close (i := cnt) (vs := ([.slice B' pn d'] : List Value)) hgB hg5 hnc hcm Hcur.out.1 Hcur.out.2 Hq.out.2.2.1 rfl hcn
      rw [har] at hfin
      have hcells : Cells 1 (PQ (FrX w.heap.size (w5.setRow g ar) (.slice (some ⟨g, 0, none⟩) (n + 1) (cnt + 1))) (w5.setRow g ar)) ((specS ((pels ls).take (k + 1))).map (List.map E.toREl)) (laid 1 cnt ([.slice B' pn d'] : List Value) us) := by
       have e1 : (specS ((pels ls).take (k + 1))).map (List.map E.toREl) = (S.map (List.map E.toREl)).take cnt ++ (pel x).map E.toREl :: (S.map (List.map E.toREl)).drop cnt := by rw [Hq.out.2.2.2.2.2.2.1, Hins.out]; simp
       rw [e1]
       refine cells_laid (Hq.out.2.1.mono fun a cs h => PQ.mono (PQ.keeps h fun b hb => ?_) fun b hb => ⟨hb.1, ?_, ?_⟩) ⟨B', d', by rw [hpn], (hpp.keeps fun b hb => ?_).mono fun b hb => ⟨?_, ?_, ?_⟩⟩ rfl (by rw [List.length_map, Hn.out]; omega)
       ·have h1 := H4.out.2.2.1 b hb
        rw [setRow_other _ _ _ h1.2.1, hb5.block b h1.2.2]
        exact h1.1
       ·rw [(setRow_same _ _ _).2.2.2]
        exact Nat.lt_of_lt_of_le (H4.out.2.2.1 b hb).2.2 hb5.size
       ·intro e; exact (H4.out.2.2.1 b hb).2.1 (Option.some.inj e)
       ·rw [setRow_other _ _ _ (by have := hb.1; omega)]
       ·have := hb.1; have := H4.out.1.size; omega
       ·rw [(setRow_same _ _ _).2.2.2]; exact hb.2
       ·intro e; have e4 : b = g := Option.some.inj e; have := hb.1; omega
      have hbf : Below w.heap.size w (w5.setRow g ar) := below_setRow (H4.out.1.trans (hb5.mono H4.out.1.size)) hgB _
      have hlen : (specS ((pels ls).take (k + 1))).length = n + 1 := by rw [Hq.out.2.2.2.2.2.2.1, Hins.out]; simp [Hn.out]; omega
      have Hf := hide (And.intro hfin (And.intro hcells (And.intro hbf hlen)))
      have Hg5 := hide (And.intro hg5 (And.intro hsz5 har))
      rw [hpn]
      clear hpp hb5 hg5 hsz5 har hfin hcells hbf hlen H4 Hq Hx Hcur hpn
      go_wp2_with (refine wpList_store_val (op := ⟨none, _, _, _, _, _⟩) rfl _ (.tmp 39) (.tmp 38) rfl g (cnt * 1) 22 (.slice B' pn d') #[.slice B' pn d'] (shifted 1 cnt us cur) ar (by rw [Nat.mul_one]; rfl) rfl rfl Hg5.out.1 (by rw [Hg5.out.2.1]; simp <;> omega) (by kernel_rfl) (by simp [Value.oneCell']) Hg5.out.2.2 ?_)
      exact ⟨⟨k + 1, _, by go_num, by rw [Hpl.out]; omega, by rw [Hf.out.2.2.2]; exact Hf.out.1, Hf.out.2.1, Hf.out.2.2.1⟩, by simp [intOf]; omega⟩
     ·have hb2 : ¬ oc' = cnt + 1 := hcap
      go_wp2_with fail
      go_still_tail 7, (by kernel_rfl)
      change wpList _ _ _ _ _ w3.drew
      refine wpList_copy_eq _ rfl _ _ 36 36 rfl _ _ rfl rfl (run_copy_zero w3.drew 36 36 _ 22 1 _ _ _ _ _ _ (by have := Hend.out; omega) Tryz.underlying36 (by kernel_rfl)) ?_
      have hsh : shifted 1 cnt us cur = cur := by rw [show cnt = n from Hend.out.symm]; exact shifted_end Hq.out.2.2.1
      have H4 := hide (show Below w.heap.size w w3.drew ∧ w3.drew.heap[g]? = some (.cells (shifted 1 cnt us cur) 22 (0, 0)) ∧ (∀ b, FrX w.heap.size wo (.slice oA n oc) b → w3.drew.heap[b]? = wo.heap[b]? ∧ b ≠ g ∧ b < w3.drew.heap.size) ∧ g < w3.drew.heap.size ∧ True from
       ⟨below_drew H3.out.2.1, by rw [hsh]; exact H3.out.1, H3.out.2.2, hgl3, trivial⟩)
      clear hsh H3
      clear hii1 hw1 htn hle1 hle2 hin
      generalize w3.drew = w4 at *

      have hg4l := H4.out.2.2.2.1
      go_wp2_with fail
      refine (Hclean.out w4 H4.out.1).mono ?_
      rintro en w5 ⟨B', d', rfl, hpp, hb5⟩
      obtain ⟨pn, hpn⟩ : ∃ pn, ((pel x).map E.toREl).length = pn := ⟨_, rfl⟩
      have hg5 : w5.heap[g]? = some (.cells (shifted 1 cnt us cur) 22 (0, 0)) := (hb5.block g hg4l).trans H4.out.2.1
      have hsz5 := shifted_size (k := 1) (i := cnt) Hq.out.2.2.1 Hcur.out.1 hcn hnc
      obtain ⟨ar, har⟩ : ∃ ar, ((shifted 1 cnt us cur).toList.take (cnt * 1) ++ ([.slice B' pn d'] : List Value) ++ (shifted 1 cnt us cur).toList.drop (cnt * 1 + ([.slice B' pn d'] : List Value).length)).toArray = ar := ⟨_, rfl⟩
      have hfin := insrow_close (i := cnt) (vs := ([.slice B' pn d'] : List Value)) hgB hg5 hnc hcm Hcur.out.1 Hcur.out.2 Hq.out.2.2.1 rfl hcn
      rw [har] at hfin
      have hcells : Cells 1 (PQ (FrX w.heap.size (w5.setRow g ar) (.slice (some ⟨g, 0, none⟩) (n + 1) oc')) (w5.setRow g ar)) ((specS ((pels ls).take (k + 1))).map (List.map E.toREl)) (laid 1 cnt ([.slice B' pn d'] : List Value) us) := by
       have e1 : (specS ((pels ls).take (k + 1))).map (List.map E.toREl) = (S.map (List.map E.toREl)).take cnt ++ (pel x).map E.toREl :: (S.map (List.map E.toREl)).drop cnt := by rw [Hq.out.2.2.2.2.2.2.1, Hins.out]; simp
       rw [e1]
       refine cells_laid (Hq.out.2.1.mono fun a cs h => PQ.mono (PQ.keeps h fun b hb => ?_) fun b hb => ⟨hb.1, ?_, ?_⟩) ⟨B', d', by rw [hpn], (hpp.keeps fun b hb => ?_).mono fun b hb => ⟨?_, ?_, ?_⟩⟩ rfl (by rw [List.length_map, Hn.out]; omega)
       ·have h1 := H4.out.2.2.1 b hb
        rw [setRow_other _ _ _ h1.2.1, hb5.block b h1.2.2]
        exact h1.1
       ·rw [(setRow_same _ _ _).2.2.2]
        exact Nat.lt_of_lt_of_le (H4.out.2.2.1 b hb).2.2 hb5.size
       ·intro e; exact (H4.out.2.2.1 b hb).2.1 (Option.some.inj e)
       ·rw [setRow_other _ _ _ (by have := hb.1; omega)]
       ·have := hb.1; have := H4.out.1.size; omega
       ·rw [(setRow_same _ _ _).2.2.2]; exact hb.2
       ·intro e; have e4 : b = g := Option.some.inj e; have := hb.1; omega
      have hbf : Below w.heap.size w (w5.setRow g ar) := below_setRow (H4.out.1.trans (hb5.mono H4.out.1.size)) hgB _
      have hlen : (specS ((pels ls).take (k + 1))).length = n + 1 := by rw [Hq.out.2.2.2.2.2.2.1, Hins.out]; simp [Hn.out]; omega
      have Hf := hide (And.intro hfin (And.intro hcells (And.intro hbf hlen)))
      have Hg5 := hide (And.intro hg5 (And.intro hsz5 har))
      rw [hpn]
      clear hpp hb5 hg5 hsz5 har hfin hcells hbf hlen H4 Hq Hx Hcur hpn
      go_wp2_with (refine wpList_store_val (op := ⟨none, _, _, _, _, _⟩) rfl _ (.tmp 39) (.tmp 38) rfl g (cnt * 1) 22 (.slice B' pn d') #[.slice B' pn d'] (shifted 1 cnt us cur) ar (by rw [Nat.mul_one]; rfl) rfl rfl Hg5.out.1 (by rw [Hg5.out.2.1]; simp <;> omega) (by kernel_rfl) (by simp [Value.oneCell']) Hg5.out.2.2 ?_)
      exact ⟨⟨k + 1, _, by go_num, by rw [Hpl.out]; omega, by rw [Hf.out.2.2.2]; exact Hf.out.1, Hf.out.2.1, Hf.out.2.2.1⟩, by simp [intOf]; omega⟩
    ·have hb2 : ¬ oc' = cnt + 1 := by omega
     have hb4 : ¬ oc' = cnt := by omega
     go_wp2_with fail
     go_still_tail 7, (by kernel_rfl)
     change wpList _ _ _ _ _ w3.drew
     refine wpList_copy_eq _ rfl _ _ 36 36 rfl _ _ rfl rfl (insrow_copy' (w := w3.drew) (k := 1) (i := cnt) (o1 := cnt + 1) (o2 := cnt) Tryz.underlying36 (by kernel_rfl) H3.out.1 hnc Hcur.out.1 Hcur.out.2 Hq.out.2.2.1 (by omega) Hones.out _ _ _ _ _ (by omega) (by omega) (by omega) (by omega)) ?_
     have H4 := hide (show Below w.heap.size w (w3.drew.setRow g (shifted 1 cnt us cur)) ∧ (w3.drew.setRow g (shifted 1 cnt us cur)).heap[g]? = some (.cells (shifted 1 cnt us cur) 22 (0, 0)) ∧ (∀ b, FrX w.heap.size wo (.slice oA n oc) b → (w3.drew.setRow g (shifted 1 cnt us cur)).heap[b]? = wo.heap[b]? ∧ b ≠ g ∧ b < (w3.drew.setRow g (shifted 1 cnt us cur)).heap.size) ∧ g < (w3.drew.setRow g (shifted 1 cnt us cur)).heap.size ∧ True from
      ⟨below_setRow (below_drew H3.out.2.1) hgB _, setRow_heap w3.drew g cur _ 22 (0, 0) H3.out.1, fun b hb => ⟨(setRow_other _ _ _ (H3.out.2.2 b hb).2.1).trans (H3.out.2.2 b hb).1, (H3.out.2.2 b hb).2.1, by rw [(setRow_same _ _ _).2.2.2]; exact (H3.out.2.2 b hb).2.2⟩, by rw [(setRow_same _ _ _).2.2.2]; exact hgl3, trivial⟩)
     clear H3
     clear hii1 hw1 htn hle1 hle2 hin
     generalize w3.drew.setRow g _ = w4 at *

     have hg4l := H4.out.2.2.2.1
     go_wp2_with fail
     refine (Hclean.out w4 H4.out.1).mono ?_
     rintro en w5 ⟨B', d', rfl, hpp, hb5⟩
     obtain ⟨pn, hpn⟩ : ∃ pn, ((pel x).map E.toREl).length = pn := ⟨_, rfl⟩
     have hg5 : w5.heap[g]? = some (.cells (shifted 1 cnt us cur) 22 (0, 0)) := (hb5.block g hg4l).trans H4.out.2.1
     have hsz5 := shifted_size (k := 1) (i := cnt) Hq.out.2.2.1 Hcur.out.1 hcn hnc
     obtain ⟨ar, har⟩ : ∃ ar, ((shifted 1 cnt us cur).toList.take (cnt * 1) ++ ([.slice B' pn d'] : List Value) ++ (shifted 1 cnt us cur).toList.drop (cnt * 1 + ([.slice B' pn d'] : List Value).length)).toArray = ar := ⟨_, rfl⟩
     have hfin := insrow_close (i := cnt) (vs := ([.slice B' pn d'] : List Value)) hgB hg5 hnc hcm Hcur.out.1 Hcur.out.2 Hq.out.2.2.1 rfl hcn
     rw [har] at hfin
     have hcells : Cells 1 (PQ (FrX w.heap.size (w5.setRow g ar) (.slice (some ⟨g, 0, none⟩) (n + 1) oc')) (w5.setRow g ar)) ((specS ((pels ls).take (k + 1))).map (List.map E.toREl)) (laid 1 cnt ([.slice B' pn d'] : List Value) us) := by
      have e1 : (specS ((pels ls).take (k + 1))).map (List.map E.toREl) = (S.map (List.map E.toREl)).take cnt ++ (pel x).map E.toREl :: (S.map (List.map E.toREl)).drop cnt := by rw [Hq.out.2.2.2.2.2.2.1, Hins.out]; simp
      rw [e1]
      refine cells_laid (Hq.out.2.1.mono fun a cs h => PQ.mono (PQ.keeps h fun b hb => ?_) fun b hb => ⟨hb.1, ?_, ?_⟩) ⟨B', d', by rw [hpn], (hpp.keeps fun b hb => ?_).mono fun b hb => ⟨?_, ?_, ?_⟩⟩ rfl (by rw [List.length_map, Hn.out]; omega)
      ·have h1 := H4.out.2.2.1 b hb
       rw [setRow_other _ _ _ h1.2.1, hb5.block b h1.2.2]
       exact h1.1
      ·rw [(setRow_same _ _ _).2.2.2]
       exact Nat.lt_of_lt_of_le (H4.out.2.2.1 b hb).2.2 hb5.size
      ·intro e; exact (H4.out.2.2.1 b hb).2.1 (Option.some.inj e)
      ·rw [setRow_other _ _ _ (by have := hb.1; omega)]
      ·have := hb.1; have := H4.out.1.size; omega
      ·rw [(setRow_same _ _ _).2.2.2]; exact hb.2
      ·intro e; have e4 : b = g := Option.some.inj e; have := hb.1; omega
     have hbf : Below w.heap.size w (w5.setRow g ar) := below_setRow (H4.out.1.trans (hb5.mono H4.out.1.size)) hgB _
     have hlen : (specS ((pels ls).take (k + 1))).length = n + 1 := by rw [Hq.out.2.2.2.2.2.2.1, Hins.out]; simp [Hn.out]; omega
     have Hf := hide (And.intro hfin (And.intro hcells (And.intro hbf hlen)))
     have Hg5 := hide (And.intro hg5 (And.intro hsz5 har))
     rw [hpn]
     clear hpp hb5 hg5 hsz5 har hfin hcells hbf hlen H4 Hq Hx Hcur hpn
     go_wp2_with (refine wpList_store_val (op := ⟨none, _, _, _, _, _⟩) rfl _ (.tmp 39) (.tmp 38) rfl g (cnt * 1) 22 (.slice B' pn d') #[.slice B' pn d'] (shifted 1 cnt us cur) ar (by rw [Nat.mul_one]; rfl) rfl rfl Hg5.out.1 (by rw [Hg5.out.2.1]; simp <;> omega) (by kernel_rfl) (by simp [Value.oneCell']) Hg5.out.2.2 ?_)
     exact ⟨⟨k + 1, _, by go_num, by rw [Hpl.out]; omega, by rw [Hf.out.2.2.2]; exact Hf.out.1, Hf.out.2.1, Hf.out.2.2.1⟩, by simp [intOf]; omega⟩
  ·have hke : k = ls.length := by omega
   subst hke
   have hki1 : ¬ ((ls.length : Nat) : Int) < (ls.length : Int) := by omega
   have hpl := specS_ok Hok.out
   have hll := hpl.2.2
   rw [List.take_of_length_le (by rw [Hpl.out]; omega)] at hus hown
   rw [Hpl.out] at hll
   obtain ⟨oA, oc, rfl, hc1, hc2⟩ := own_form hown
   have hlt2 := hown.lt
   have hfin : PathsAt (Fr w.heap.size wr) wr ((specS (pels ls)).map (List.map E.toREl)) oA oc := ⟨by rw [List.length_map]; unfold R47; omega, by rw [List.length_map]; exact hc1, hc2, us, by rw [List.length_map]; exact Row.of_own hown hlt2, hus.mono fun a cs h => PQ.mono h fun b hb => ⟨hb.1, hb.2.1⟩⟩
   have H3 := hide (And.intro hb hfin)
   have Hlm := hide (show ((specS (pels ls)).map (List.map E.toREl)).length = (specS (pels ls)).length from List.length_map _)
   clear hb hown hus hlt2 hc1 hc2 hfin hpl hll
   go_wp2
   go_ret
   exact ⟨oA, oc, by rw [Hlm.out]; rfl, H3.out.2, H3.out.1⟩

end Go.Proofs.YtbicoknghdgahaaGreat

namespace Go.Proofs.YtbicoknghdgahaaGreat
open Go.RowKit

theorem specS_pws1 {ls : List (List REl)} (h : ∀ p ∈ pels ls, POk p) : ∀ p ∈ specS (pels ls), PWS p := fun p hp => pels_pws (specS_mem h hp).1

end Go.Proofs.YtbicoknghdgahaaGreat
