/- Parts: SpecWalk2, LaidP, InsRow. -/
import Derived.Test.YtbicoknghdgahaaGreatKB12
set_option linter.unusedVariables false
set_option linter.unusedSimpArgs false
namespace Go.Proofs.YtbicoknghdgahaaGreat
open Go.RowKit
attribute [local go_sem] run_store_float

def CPInv (w : World) (p : List E) (s3 s9 : Value) (W : World) : Prop :=
 ∃ (k : Nat) (us : List Value), s9 = .int .i64 (k : Int) ∧ k ≤ p.length ∧ W.ownsRow w.heap.size 29 11 s3 k us ∧ Cells 11 (ElemAt (FrX w.heap.size W s3) W) ((p.take k).map E.toREl) us ∧ Below w.heap.size w W

set_option maxRecDepth 100000 in
set_option maxHeartbeats 4000000 in
theorem cleanPath_calls {l : List REl} {A : Option Addr} {c : Nat} {w : World} (h : PathAt (Old w) w l A c) : Calls Tryz.prog 78 #[.slice A l.length c] w (GivesEls ((pel l).map E.toREl) w) := by
 obtain ⟨h1, h2, h3, xs, h4, h5⟩ := h
 have h1' : l.length * 168 ≤ 140737488351232 := h1
 obtain ⟨i9, hi9, hz9, hs9, hb9⟩ := info_parts elem_info
 have H7 := hide (And.intro h4 h5)
 have Hpl := hide (pel_length l)
 clear h1 h4 h5
 go_enter Tryz.func78, Tryz.ntmps78
 go_wp2_with (at_make; refine wpList_make_own _ rfl _ _ 22 rfl w.heap.size 29 i9 _ 11 Tryz.underlying22 hi9 hz9 hs9 _ _ _ l.length rfl rfl rfl ?b2 ?b3 ?b4 ?_)
 case b2 => rw [hb9]; omega
 case b3 => unfold maxLen; omega
 case b4 => simp
 intro w0 hown0 hgrow0
 have hb0 : Below w.heap.size w w0 := (Below.refl _ _).grown hgrow0 (by simp) (fun k h => by cases h)
 have H0 := hide (And.intro hb0 hown0)
 clear hgrow0 hb0 hown0
 go_wp2_with fail
 go_loopw [3, 11] (fun s3 s9 W => CPInv w (pel l) s3 s9 W) (fun _ s _ => l.length - (intOf s).toNat)
 case atStart => exact ⟨0, [], rfl, Nat.zero_le _, H0.out.2, Cells.nil_, H0.out.1⟩
 case round =>
  obtain ⟨k, us, rfl, hk, hown, hus, hb⟩ := hrel
  rw [Hpl.out] at hk
  by_cases hlt : k < l.length
  ·have hki0 : (0 : Int) ≤ (k : Int) := Int.natCast_nonneg _
   have hki1 : (k : Int) < (l.length : Int) := by omega
   have hx := H7.out.2.at_ hlt
   have hsn : ((pel l).take (k + 1)).map E.toREl = ((pel l).take k).map E.toREl ++ [(l[k]).elem.toREl] := by rw [List.take_succ_eq_append_getElem (by rw [Hpl.out]; exact hlt)]; simp [pel]
   generalize l[k] = fx at *
   generalize hcs : (xs.drop (k * 11)).take 11 = fcs at hx
   obtain ⟨a0, a1, a2, a3, a4, a5, a6, a7, a8, a9, aa, ab, ac, ad, ae, af, ag, ah, ai, rfl⟩ := hx.form
   obtain ⟨rb, ro, rfl, hF, hc⟩ := rown_at H7.out.1 hlt hcs
   have ec := (bcell hb).1
   have m0 := (ec _ _ hF).trans (hc 0 _ rfl)
   have m1 := (ec _ _ hF).trans (hc 1 _ rfl)
   have m2 := (ec _ _ hF).trans (hc 2 _ rfl)
   have m3 := (ec _ _ hF).trans (hc 3 _ rfl)
   have m4 := (ec _ _ hF).trans (hc 4 _ rfl)
   have m5 := (ec _ _ hF).trans (hc 5 _ rfl)
   have m6 := (ec _ _ hF).trans (hc 6 _ rfl)
   have m7 := (ec _ _ hF).trans (hc 7 _ rfl)
   have m8 := (ec _ _ hF).trans (hc 8 _ rfl)
   have m9 := (ec _ _ hF).trans (hc 9 _ rfl)
   have m10 := (ec _ _ hF).trans (hc 10 _ rfl)
   rw [Nat.add_zero] at m0
   have hrb : rb < w.heap.size := hF
   have HE := hide fun (W : World) (hb : Below w.heap.size w W) => cleanElem_calls fx W _ (hx.at_ hb)
   have Hq := hide (And.intro hown (And.intro hus (And.intro hb hsn)))
   clear hown hus hb hsn hx hcs hc ec hF
   go_wp2_with fail
   have hbA : Below wr.heap.size wr (wr.alloc (.cells #[.int .i64 a0, .string a1, .slice a2 a3 a4, .slice a5 a6 a7, .int .i64 a8, .int .i64 a9, .float .f64 aa, .string ab, .slice ac ad ae, .slice af ag ah, .int .i64 ai] 29)) := (Below.refl _ _).alloc (Nat.le_refl _) _
   have hbw := Hq.out.2.2.1.trans (hbA.mono Hq.out.2.2.1.size)
   refine (HE.out _ hbw).mono ?_
   rintro e w1 ⟨ps, rfl, hp, hb1⟩
   obtain ⟨e0, e1, e2, e3, e4, e5, e6, e7, e8, e9, ea, eb, ec', ed, ee, ef, eg, eh, ei, rfl⟩ := hp.form
   have hp' : ElemAt (Fr wr.heap.size w1) w1 fx.elem.toREl [.int .i64 e0, .string e1, .slice e2 e3 e4, .slice e5 e6 e7, .int .i64 e8, .int .i64 e9, .float .f64 ea, .string eb, .slice ec' ed ee, .slice ef eg eh, .int .i64 ei] := hp.mono fun b hb => ⟨by have := hb.1; rw [World.size_alloc] at this; omega, hb.2⟩
   have hb1' : Below wr.heap.size wr w1 := hbA.trans (hb1.mono hbA.size)
   have H1 := hide (And.intro hp' hb1')
   have hs0 : w.heap.size ≤ w1.heap.size := (Hq.out.2.2.1.trans (hb1'.mono Hq.out.2.2.1.size)).size
   clear hp hp' hb1 hb1' hbA hbw m0 m1 m2 m3 m4 m5 m6 m7 m8 m9 m10 HE
   obtain ⟨oA, oc, rfl, _, _⟩ := own_form Hq.out.1
   go_wp2_with (at_builtin; go_loud (refine wpList_append_row _ rfl (.tmp 15) (.tmp 18) 22 rfl w.heap.size 29 i9 _ 11 168 Tryz.underlying22 hi9 hz9 hs9 hb9 rfl (by omega) _ k us rfl ((ownsRow_below Hq.out.1 H1.out.2 (Nat.le_refl _)).alloc _) (fun _ => True) (some ⟨w1.heap.size, 0, none⟩) 1 1 [.int .i64 e0, .string e1, .slice e2 e3 e4, .slice e5 e6 e7, .int .i64 e8, .int .i64 e9, .float .f64 ea, .string eb, .slice ec' ed ee, .slice ef eg eh, .int .i64 ei] rfl (Row.of_bkp (Bk.new w1 29 ([.int .i64 e0, .string e1, .slice e2 e3 e4, .slice e5 e6 e7, .int .i64 e8, .int .i64 e9, .float .f64 ea, .string eb, .slice ec' ed ee, .slice ef eg eh, .int .i64 ei] : List Value).toArray) rfl trivial) (by simp [Value.oneCell']) (by omega) (by omega) (by rw [World.size_alloc]; omega) ?_))
   intro out' w2 hown2 hg2 hat2
   have hcs := cells_stepp (Q := fun F w a cs => ElemAt F w a cs) (a := fx.elem.toREl) (fun h k => h.keeps k) (fun h k => h.mono k) Hq.out.1 Hq.out.2.1 Hq.out.2.2.1.size H1.out.1 rfl H1.out.2 hg2 (by rw [World.size_alloc]; exact hat2)
   have hlo := Hq.out.1.lt
   have hbf : Below w.heap.size w w2 := ((Hq.out.2.2.1.trans (H1.out.2.mono Hq.out.2.2.1.size)).alloc hs0 _).grown hg2 (by rw [World.size_alloc]; omega) fun k e => (hlo k e).1
   have Hfin := hide (And.intro hown2 (And.intro hcs (And.intro hbf Hq.out.2.2.2)))
   obtain ⟨nA, nc, rfl, _, _⟩ := own_form hown2
   clear hown2 hg2 hat2 hcs hlo hbf H1 Hq hs0
   go_wp2_with fail
   exact ⟨⟨k + 1, _, by go_num, by rw [Hpl.out]; omega, Hfin.out.1, by rw [Hfin.out.2.2.2]; exact Hfin.out.2.1.1, Hfin.out.2.2.1⟩, by simp [intOf]; omega⟩
  ·have hke : k = l.length := by omega
   subst hke
   have hki1 : ¬ ((l.length : Nat) : Int) < (l.length : Int) := by omega
   rw [List.take_of_length_le (by rw [Hpl.out]; omega)] at hus
   obtain ⟨oA, oc, rfl, hc1, hc2⟩ := own_form hown
   have hlt := hown.lt
   have hlm : ((pel l).map E.toREl).length = l.length := by rw [List.length_map, Hpl.out]
   have hfin : PathAt (Fr w.heap.size wr) wr ((pel l).map E.toREl) oA oc := ⟨by rw [hlm]; unfold R47; omega, by rw [hlm]; exact hc1, hc2, us, by rw [hlm]; exact Row.of_own hown hlt, hus.mono fun a cs h => h.mono fun b hb => ⟨hb.1, hb.2.1⟩⟩
   have H3 := hide (And.intro hb hfin)
   have Hlm := hide hlm
   clear hb hown hus hlt hc1 hc2 hfin hlm
   go_wp2
   go_ret
   exact ⟨oA, oc, by rw [Hlm.out]; rfl, H3.out.2, H3.out.1⟩

end Go.Proofs.YtbicoknghdgahaaGreat

namespace Go.Proofs.YtbicoknghdgahaaGreat
open Go.RowKit

theorem cells_laid {α : Type} {n : Nat} {P : α → List Value → Prop} {l : List α} {xs cs : List Value} {e : α} {i : Nat} (h : Cells n P l xs) (he : P e cs) (hl : cs.length = n) (hi : i ≤ l.length) : Cells n P (l.take i ++ e :: l.drop i) (laid n i cs xs) := by
 have h1 := h.take i hi
 have h2 := h.drop_ i
 have := (h1.append (Cells.one he hl)).append h2
 simpa [laid] using this
end Go.Proofs.YtbicoknghdgahaaGreat

namespace Go.Proofs.YtbicoknghdgahaaGreat
open Go.RowKit

section
variable {P : Program}
theorem run_copy_zero (w : World) (dT sT ty elem : TypeId) (size : Nat) (A B : Option Addr) (dl dc sLen sc : Nat) (h0 : dl = 0) (hu : P.underlying dT = some (.slice elem)) (hs : (P.info? elem).map (·.size) = some size) :
  (Builtin.copy_ #[dT, sT] ty #[.slice A dl dc, .slice B sLen sc]).run P w = .ok (goInt ((0 : Nat) : Int)) w := by
 subst h0
 cases hq : P.info? elem with
 | none => simp [hq] at hs
 | some i =>
  have hm : Nat.min sLen 0 = 0 := Nat.min_zero _
  cases A with
  | none =>
   cases B with
   | none => simp [Builtin.copy_, run_underlying hu, Builtin.lenOf, Builtin.firstCells, sizeOf, typeInfo, hq, hm]
   | some b =>
    have hl := run_loadCells_list (P := P) w b [] (by simp)
    simp only [List.length_nil] at hl
    simp [Builtin.copy_, run_underlying hu, Builtin.lenOf, Builtin.firstCells, sizeOf, typeInfo, hq, hm, hl]
  | some a =>
   cases B with
   | none => simp [Builtin.copy_, run_underlying hu, Builtin.lenOf, Builtin.firstCells, sizeOf, typeInfo, hq, hm, storeCells]
   | some b =>
    have hl := run_loadCells_list (P := P) w b [] (by simp)
    simp only [List.length_nil] at hl
    simp [Builtin.copy_, run_underlying hu, Builtin.lenOf, Builtin.firstCells, sizeOf, typeInfo, hq, hm, hl, storeCells]

theorem run_storeVar_val (w : World) (g o : Nat) (ty t : TypeId) (v : Value) (cells cur : Array Value) (hv : v.cells = cells) (hg : w.heap[g]? = some (.cells cur t (0, 0))) (hf : o + cells.size ≤ cur.size) (hi : (P.info? ty).map (·.size) = some cells.size) (h1 : ∀ v ∈ cells.toList, v.oneCell' = true) :
  (storeVar ty ⟨g, o, none⟩ v).run P w = .ok () (w.setRow g (cur.toList.take o ++ cells.toList ++ cur.toList.drop (o + cells.toList.length)).toArray) := by
 have := run_storeCells_at P g o t cells.toList 0 cur w hg (by simpa using hf) h1
 cases hq : P.info? ty with
 | none => simp [hq] at hi
 | some i =>
  have hs : cells.size = i.size := by simp [hq] at hi; omega
  simp only [Nat.add_zero] at this
  simp [storeVar, sizeOf, typeInfo, hq, hv, hs, this]
theorem wpList_store_val {ops : Array Oper} {rest : List Oper} {op : Oper} {a : Act} {w : World} {Q : Exit → Act → World → Prop} (hgd : op.guard = none) (ty : TypeId) (x y : Operand) (ho : op.op = .store ty x y)
  (g o : Nat) (t : TypeId) (v : Value) (cells cur ar : Array Value) (hx : a.eval x = .pointer (some ⟨g, o, none⟩)) (hy : a.eval y = v) (hv : v.cells = cells)
  (hg : w.heap[g]? = some (.cells cur t (0, 0))) (hf : o + cells.size ≤ cur.size) (hi : (P.info? ty).map (·.size) = some cells.size) (h1 : ∀ v ∈ cells.toList, v.oneCell' = true) (har : (cur.toList.take o ++ cells.toList ++ cur.toList.drop (o + cells.toList.length)).toArray = ar)
  (h : wpList P ops Q rest (a.put op.dst undef) (w.setRow g ar)) : wpList P ops Q (op :: rest) a w := by
 subst har
 refine wpList_plain hgd fun K hK => ?_
 unfold Oper.wp execOp
 simp only [ho, hx, hy, Instr.storeAt, Instr.sureAddr, Sem.run_bind, Sem.run_pure, Result.andThen_ok, run_storeVar_val w g o ty t v cells cur hv hg hf hi h1]
 exact hK _ _ h
end

theorem insrow_open {w : World} {B : Nat} {e : TypeId} {k n c : Nat} {A : Option Addr} {xs zs : List Value} (hk : 0 < k) (hown : w.ownsRow B e k (.slice A (n + 1) c) (n + 1) (xs ++ zs)) (hx : xs.length = n * k) :
  ∃ (g : Nat) (cur : Array Value), A = some ⟨g, 0, none⟩ ∧ B ≤ g ∧ w.heap[g]? = some (.cells cur e (0, 0)) ∧ n + 1 ≤ c ∧ c ≤ maxLen ∧ cur.size = c * k ∧ cur.toList.take (n * k) = xs := by
 obtain ⟨h1, h | ⟨g, cap, cur, e1, h2, h3, h4, h5, h6, h7⟩⟩ := hown
 ·exact absurd h.2 (by omega)
 ·cases e1
  refine ⟨g, cur, rfl, h2, h3, h4, h5, h6, ?_⟩
  have : (cur.toList.take ((n + 1) * k)).take (n * k) = (xs ++ zs).take (n * k) := by rw [h7]
  rw [List.take_take, List.take_left' hx, Nat.min_eq_left (by rw [Nat.add_mul]; omega)] at this
  exact this

def shifted (k i : Nat) (xs : List Value) (cur : Array Value) : Array Value := (cur.toList.take ((i + 1) * k) ++ xs.drop (i * k) ++ cur.toList.drop ((i + 1) * k + (xs.drop (i * k)).length)).toArray
theorem shifted_end {k n : Nat} {xs : List Value} {cur : Array Value} (hx : xs.length = n * k) : shifted k n xs cur = cur := by
 unfold shifted
 rw [List.drop_eq_nil_of_le (by omega : xs.length ≤ n * k)]
 simp
theorem shifted_size {k n i c : Nat} {xs : List Value} {cur : Array Value} (hx : xs.length = n * k) (hc : cur.size = c * k) (hi : i ≤ n) (hnc : n + 1 ≤ c) : (shifted k i xs cur).size = c * k := by
 have h1 : (n + 1) * k ≤ c * k := Nat.mul_le_mul_right _ hnc
 have h2 : i * k ≤ n * k := Nat.mul_le_mul_right _ hi
 unfold shifted
 simp only [List.size_toArray, List.length_append, List.length_take, List.length_drop, Array.length_toList, hc, hx]
 rw [Nat.add_mul, Nat.one_mul] at *
 omega
theorem insrow_copy {P : Program} {w : World} {e dT sT : TypeId} {k n i c g : Nat} {cur : Array Value} {xs : List Value} (hu : P.underlying dT = some (.slice e)) (hs : (P.info? e).map (·.size) = some k) (hg : w.heap[g]? = some (.cells cur e (0, 0))) (hnc : n + 1 ≤ c) (hcs : cur.size = c * k) (hct : cur.toList.take (n * k) = xs)
  (hx : xs.length = n * k) (hi : i < n) (h1 : ∀ u ∈ xs, u.oneCell' = true) (ty : TypeId) (dl dc sl sc : Nat) (hdl : dl = n - i) (hsl : sl = n + 1 - i) :
  (Builtin.copy_ #[dT, sT] ty #[.slice (some ⟨g, (i + 1) * k, none⟩) dl dc, .slice (some ⟨g, i * k, none⟩) sl sc]).run P w = .ok (goInt ((n - i : Nat) : Int)) (w.setRow g (shifted k i xs cur)) := by
 subst hdl hsl
 have hck : (n + 1) * k ≤ c * k := Nat.mul_le_mul_right _ hnc
 have hdl : (xs.drop (i * k)).length = (n - i) * k := by rw [List.length_drop, hx, Nat.sub_mul]
 have hin : i * k ≤ n * k := Nat.mul_le_mul_right _ (by omega)
 have h := run_copy_rowN (P := P) w dT sT ty e k g ((i + 1) * k) (n - i) dc ⟨g, i * k, none⟩ (n + 1 - i) sc cur e (xs.drop (i * k)) hu hs hg
  (by rw [hdl, show Nat.min (n + 1 - i) (n - i) = n - i from Nat.min_eq_right (by omega)])
  (fun j v hj => by
   rw [List.getElem?_drop] at hj
   rw [Addr.add_lit]
   show w.cell? _ = _
   unfold World.cell?
   rw [hg]
   simp only
   have hjl := (List.getElem?_eq_some_iff.1 hj).1
   rw [← hct, List.getElem?_take] at hj
   split at hj
   ·simpa using hj
   ·cases hj)
  (by rw [hdl, hcs, Nat.sub_mul, Nat.add_mul, Nat.one_mul]; rw [Nat.add_mul, Nat.one_mul] at hck; omega) (fun u hu => h1 u (List.mem_of_mem_drop hu))
 rw [show Nat.min (n + 1 - i) (n - i) = n - i from Nat.min_eq_right (by omega)] at h
 exact h
theorem insrow_close {W : World} {B : Nat} {e : TypeId} {k n i c g : Nat} {cur : Array Value} {xs vs : List Value} (hB : B ≤ g) (hg : W.heap[g]? = some (.cells (shifted k i xs cur) e (0, 0))) (hnc : n + 1 ≤ c) (hcm : c ≤ maxLen) (hcs : cur.size = c * k) (hct : cur.toList.take (n * k) = xs)
  (hx : xs.length = n * k) (hv : vs.length = k) (hi : i ≤ n) :
  (W.setRow g ((shifted k i xs cur).toList.take (i * k) ++ vs ++ (shifted k i xs cur).toList.drop (i * k + vs.length)).toArray).ownsRow B e k (.slice (some ⟨g, 0, none⟩) (n + 1) c) (n + 1) (laid k i vs xs) := by
 have hck : (n + 1) * k ≤ c * k := Nat.mul_le_mul_right _ hnc
 have hin : i * k ≤ n * k := Nat.mul_le_mul_right _ hi
 have hsz := shifted_size (k := k) (i := i) hx hcs hi hnc
 refine ⟨laid_length hx hv hi, .inr ⟨g, c, _, rfl, hB, setRow_heap W g _ _ e (0, 0) hg, hnc, hcm, ?_, ?_⟩⟩
 ·simp only [List.size_toArray, List.length_append, List.length_take, List.length_drop, Array.length_toList, hsz, hv]
  rw [Nat.add_mul, Nat.one_mul] at hck
  omega
 ·have := laid_cur (i := i) (vs := vs) (cur := cur.toList) hx hv hi (by rw [Array.length_toList, hcs]; exact hck) hct
  simpa [shifted] using this
theorem setRow_same (w : World) (g : Nat) (cs : Array Value) : (w.setRow g cs).os = w.os ∧ (w.setRow g cs).tape = w.tape ∧ (w.setRow g cs).output = w.output ∧ (w.setRow g cs).heap.size = w.heap.size := by
 refine ⟨rfl, rfl, rfl, ?_⟩
 simp [World.setRow]
theorem setRow_other (w : World) (g : Nat) (cs : Array Value) {b : Nat} (h : b ≠ g) : (w.setRow g cs).heap[b]? = w.heap[b]? := by
 unfold World.setRow
 simp only [Array.getElem?_modify]
 rw [if_neg (fun e => h e.symm)]
theorem below_setRow {a w : World} {B g : Nat} (h : Below B a w) (hB : B ≤ g) (cs : Array Value) : Below B a (w.setRow g cs) :=
 ⟨h.os, h.tape, h.output, by rw [(setRow_same _ _ _).2.2.2]; exact h.size, fun b hb => by rw [setRow_other _ _ _ (by omega)]; exact h.block b hb⟩

end Go.Proofs.YtbicoknghdgahaaGreat
