/- Parts: Cz, ListEq, Law, Uzip, Uzip2, OneP, ElemP, SortedK. -/
import Derived.Test.YtbicoknghdgahaaGreatKB03
set_option linter.unusedVariables false
set_option linter.unusedSimpArgs false
namespace Go.Proofs.YtbicoknghdgahaaGreat
open Go.RowKit
attribute [local go_sem] run_store_float

end Go.Proofs.YtbicoknghdgahaaGreat

namespace Go.Proofs.YtbicoknghdgahaaGreat
open Go.RowKit

end Go.Proofs.YtbicoknghdgahaaGreat

namespace Go.Proofs.YtbicoknghdgahaaGreat
open Go.RowKit

def EqPost (c : Bool) (w : World) (e : Ending) (w' : World) : Prop := e = .returned (.bool c) ∧ Below w.heap.size w w'
theorem ret_bool {a b : Bool} (h : a = b) : Ending.returned (.bool a) = .returned (.bool b) := by rw [h]
theorem str_eq (a b : ByteArray) : (a.toList == b.toList) = decide (a = b) := by
 rw [Bool.eq_iff_iff, decide_eq_true_iff, beq_iff_eq]
 constructor
 ·intro h; rw [Lib.toList_data, Lib.toList_data] at h; exact bytes_ext h
 ·intro h; rw [h]
end Go.Proofs.YtbicoknghdgahaaGreat

namespace Go.Proofs.YtbicoknghdgahaaGreat
open Go.RowKit
attribute [local go_sem] run_store_float run_load_k

attribute [local go_sem] meth_allocRange

end Go.Proofs.YtbicoknghdgahaaGreat

namespace Go.Proofs.YtbicoknghdgahaaGreat
open Go.RowKit
attribute [local go_sem] run_store_float run_load_k meth_allocVu

end Go.Proofs.YtbicoknghdgahaaGreat

namespace Go.Proofs.YtbicoknghdgahaaGreat
open Go.RowKit
attribute [local go_sem] run_store_float run_load_k meth_allocVu meth_Free

end Go.Proofs.YtbicoknghdgahaaGreat

namespace Go.Proofs.YtbicoknghdgahaaGreat
open Go.RowKit
theorem meth_LLength (n : Nat) (v : Value) (w : World) : (method (n + 1) 452 v "Length").run Tryz.prog w = .ok (334, v) w := by kernel_rfl
theorem meth_PLength (n : Nat) (a : Addr) (w : World) : (method (n + 1) 478 (.pointer (some a)) "Length").run Tryz.prog w = (Sem.load .plain a fun v => .pure (334, v)).run Tryz.prog w := by kernel_rfl
theorem meth_PRangeUsing (n : Nat) (a : Addr) (w : World) : (method (n + 1) 478 (.pointer (some a)) "RangeUsing").run Tryz.prog w = (Sem.load .plain a fun v => .pure (336, v)).run Tryz.prog w := by kernel_rfl
attribute [local go_sem] run_store_float run_load_k meth_RangeUsing meth_Next meth_Item meth_emptyNext meth_Free meth_LLength meth_PLength meth_PRangeUsing

theorem eqvL_len {l1 l2 : List T} (h : l1.length ≠ l2.length) : T.eqvL l1 l2 = false := by
 induction l1 generalizing l2 with
 | nil => cases l2 with
  | nil => exact absurd rfl h
  | cons b l2 => rw [T.eqvL]; all_goals simp
 | cons a l1 ih => cases l2 with
  | nil => rw [T.eqvL]; all_goals simp
  | cons b l2 =>
   rw [T.eqvL, ih (by simpa using h), Bool.and_false]

end Go.Proofs.YtbicoknghdgahaaGreat

namespace Go.Proofs.YtbicoknghdgahaaGreat
open Go.RowKit

theorem RVAt.at_ {w W : World} {rv : RV} {cs : List Value} (h : RVAt (Old w) w rv cs) (hb : Below w.heap.size w W) : RVAt (Old W) W rv cs :=
 (h.keeps (Keeps.below hb fun _ h => h)).mono fun _ h => Nat.lt_of_lt_of_le h hb.size
theorem ValAt.old {F : Nat → Prop} {W : World} {t : T} {v : Value} (h : ValAt F W t v) (hF : ∀ b, F b → b < W.heap.size) : ValAt (Old W) W t v := h.mono hF
end Go.Proofs.YtbicoknghdgahaaGreat

namespace Go.Proofs.YtbicoknghdgahaaGreat
open Go.RowKit


end Go.Proofs.YtbicoknghdgahaaGreat

namespace Go.Proofs.YtbicoknghdgahaaGreat
open Go.RowKit
attribute [local go_sem] run_store_float

def OrdPost (P : Prop) (w : World) (e : Ending) (w' : World) : Prop := ∃ b, e = .returned (.bool b) ∧ (b = true → P) ∧ Below w.heap.size w w'
def OrderlyOK (r : RV) : Prop := ∀ (w : World) (cs : List Value), RVAt (Old w) w r cs → Calls Tryz.prog 68 #[.agg cs.toArray] w (OrdPost r.tree.Ok w)

def OInv (w : World) (l : List RV) (P : RV → Prop) (s : Value) (wr : World) : Prop := ∃ k : Nat, s = .int .i64 (k : Int) ∧ k ≤ l.length ∧ (∀ i r, i < k → l[i]? = some r → P r) ∧ Below w.heap.size w wr
theorem OInv.next {l : List RV} {P : RV → Prop} {k : Nat} {r : RV} (h : ∀ i r, i < k → l[i]? = some r → P r) (hr : l[k]? = some r) (hP : P r) : ∀ i r, i < k + 1 → l[i]? = some r → P r := by
 intro i r' hi hr'
 by_cases hik : i = k
 ·subst hik
  rw [hr] at hr'
  cases hr'
  exact hP
 ·exact h i r' (by omega) hr'

theorem ok_list {n : Int} {f : Nat} {s : ByteArray} {keys : List ByteArray} {l : List RV} (h : ∀ i r, i < l.length → l[i]? = some r → r.tree.Ok) : (RV.mk 5 n f s keys l).tree.Ok := by
 rw [RV.tree]
 simp only [show ¬ (5 : Int) = 1 by omega, show ¬ (5 : Int) = 2 by omega, show ¬ (5 : Int) = 3 by omega, show ¬ (5 : Int) = 4 by omega, if_false, if_true]
 refine .list fun t ht => ?_
 rw [treeL_eq] at ht
 obtain ⟨r, hr, rfl⟩ := List.mem_map.1 ht
 obtain ⟨i, hi⟩ := List.getElem?_of_mem hr
 exact h i r (List.getElem?_eq_some_iff.1 hi).1 hi
theorem mapOf_mem {α : Type} (keys : List ByteArray) (l : List α) (p : ByteArray × α) (h : p ∈ mapOf keys l) : p.2 ∈ l := by
 have := foldl_ins_keys (keys.zip l) [] p h
 rcases this with h | h
 ·cases h
 ·exact (List.of_mem_zip h).2
theorem ok_fields {l : List RV} (keys : List ByteArray) (h : ∀ i r, i < l.length → l[i]? = some r → r.tree.Ok) : (T.map (mapOf keys (l.map RV.tree))).Ok := by
 refine .map fun k t ht => ?_
 obtain ⟨r, hr, e⟩ := List.mem_map.1 (mapOf_mem _ _ _ ht)
 obtain ⟨i, hi⟩ := List.getElem?_of_mem hr
 have e : r.tree = t := e
 rw [← e]
 exact h i r (List.getElem?_eq_some_iff.1 hi).1 hi
theorem ok_map {n : Int} {f : Nat} {s : ByteArray} {keys : List ByteArray} {l : List RV} (h : ∀ i r, i < l.length → l[i]? = some r → r.tree.Ok) : (RV.mk 6 n f s keys l).tree.Ok := by
 rw [RV.tree]
 simp only [show ¬ (6 : Int) = 1 by omega, show ¬ (6 : Int) = 2 by omega, show ¬ (6 : Int) = 3 by omega, show ¬ (6 : Int) = 4 by omega, show ¬ (6 : Int) = 5 by omega, if_false, if_true]
 rw [treeL_eq]
 exact ok_fields keys h

set_option maxRecDepth 100000 in
set_option maxHeartbeats 1000000 in
theorem orderly_all (r : RV) : OrderlyOK r := by
 induction hrk : r.rank using Nat.strongRecOn generalizing r with
 | ind m ih =>
 subst hrk
 intro w cs hrv
 cases hrv with
 | @mk kind n f s keys l KA LA kc lc xs h1 h2 h3 h4 h5 h6 h7 h8 h9 h10 h11 hKrow hLrow hx =>
 have hll : l.length ≤ 8796093022208 := by unfold R47 at h7; omega
 have Hih : ∀ r ∈ l, OrderlyOK r := fun r hr => ih _ (RV.rank_lt hr) r rfl
 have HIH := hide Hih
 have H2 := hide h2
 have HL := hide hLrow
 have HX := hide hx
 clear ih Hih h1 h2 h3 h4 h5 h6 h7 h8 h9 h10 h11 hKrow hLrow hx
 have hb1 : ∀ o : Obj, Below w.heap.size w (w.alloc o) := fun o => (Below.refl _ _).alloc (Nat.le_refl _) _
 by_cases k2 : kind = 2
 ·subst k2
  have hO : (-9007199254740992 ≤ n ∧ n ≤ 9007199254740992) → (RV.mk 2 n f s keys l).tree.Ok := fun h => by
   rw [RV.tree]
   simp only [show ¬ (2 : Int) = 1 by omega, if_false, if_true]
   exact .int h.1 h.2
  have HO := hide hO
  clear hO
  rcases (by omega : (-9007199254740992 ≤ n ∧ n ≤ 9007199254740992) ∨ (¬ -9007199254740992 ≤ n ∧ n ≤ 9007199254740992) ∨ (-9007199254740992 ≤ n ∧ ¬ n ≤ 9007199254740992)) with ⟨b1, b2⟩ | ⟨b1, b2⟩ | ⟨b1, b2⟩
  all_goals
   go_enter Tryz.func68, Tryz.ntmps68
   go_wp2
   go_ret
   refine ⟨_, rfl, fun h => ?_, hb1 _⟩
   first | exact HO.out ⟨b1, b2⟩ | (exfalso; revert h; simp; omega) | (exfalso; revert h; simp)
 ·by_cases k3 : kind = 3
  ·subst k3
   have hO : feq f f = true → (RV.mk 3 n f s keys l).tree.Ok := fun h => by
    obtain ⟨a, ha⟩ := (feq_self f).1 h
    rw [RV.tree]
    simp only [show ¬ (3 : Int) = 1 by omega, show ¬ (3 : Int) = 2 by omega, if_false, if_true]
    exact .flt ha
   have HO := hide hO
   clear hO
   go_enter Tryz.func68, Tryz.ntmps68
   go_wp2
   go_ret
   exact ⟨_, rfl, HO.out, hb1 _⟩
  ·by_cases k56 : kind = 5 ∨ kind = 6
   ·have hO : (∀ i r, i < l.length → l[i]? = some r → r.tree.Ok) → (RV.mk kind n f s keys l).tree.Ok := fun h => by
     rcases k56 with rfl | rfl
     ·exact ok_list h
     ·exact ok_map h
    have HO := hide hO
    clear hO
    rcases k56 with rfl | rfl
    all_goals
     go_enter Tryz.func68, Tryz.ntmps68
     go_wp2
     go_loopw [30] (fun c wr => OInv w l (fun r => r.tree.Ok) c wr) (fun c _ => l.length - (intOf c).toNat)
     case atStart => exact ⟨0, rfl, Nat.zero_le _, fun i r hi => by omega, hb1 _⟩
     case round =>
      obtain ⟨k, rfl, hk, hall, hb⟩ := hrel
      by_cases hlt : k < l.length
      ·have hgk : l[k]? = some l[k] := List.getElem?_eq_getElem hlt
       have hrk := HX.out k _ hgk
       have hih := HIH.out l[k] (List.getElem_mem hlt)
       generalize l[k] = r at hgk hrk hih
       have hkr := hrk
       generalize hcs : (xs.drop (k * 6)).take 6 = cs at hrk hkr
       cases hrk with
       | @mk kind' n' f' s' keys' l' KA' LA' kc' lc' xs' g1 g2 g3 g4 g5 g6 g7 g8 g9 g10 g11 g12 g13 g14 =>
       clear g1 g2 g3 g4 g5 g6 g7 g8 g9 g10 g11 g12 g13 g14
       obtain ⟨b, o, rfl, hF, k0, k1, k2, k3, k4, k5⟩ := row6_at HL.out hlt hcs
       rw [← (bcell hb).1 _ _ hF] at k0 k1 k2 k3 k4 k5
       have Hkr := hide hkr
       have Hih := hide hih
       have Hgk := hide hgk
       have Hall := hide hall
       have Hb := hide hb
       have hki0 : (0 : Int) ≤ (k : Int) := Int.natCast_nonneg _
       have hki1 : (k : Int) < (l.length : Int) := by omega
       clear hcs hkr hih hgk hall hb
       go_wp2_with fail
       refine (Hih.out _ _ (Hkr.out.at_ (Hb.out.alloc Hb.out.size _))).mono ?_
       rintro e w1 ⟨bb, rfl, hbb, hb1'⟩
       have hbw := Hb.out.trans (((Below.refl _ _).alloc (Nat.le_refl _) _).trans (hb1'.mono (by simp)) |>.mono Hb.out.size)
       have Hbw := hide hbw
       have Hbb := hide hbb
       clear hbw hbb hb1' k0 k1 k2 k3 k4 k5
       cases bb
       ·go_wp2
        go_ret
        exact ⟨false, rfl, (fun h => by cases h), Hbw.out⟩
       ·go_wp2
        go_roundw
        case rel => exact ⟨k + 1, by go_num, hlt, OInv.next Hall.out Hgk.out (Hbb.out (by first | exact trivial | rfl)), Hbw.out⟩
        case measure => simp [intOf]; omega
      ·have hke : k = l.length := by omega
       subst hke
       have Hfin := hide (HO.out hall)
       clear hall
       go_wp2
       go_ret
       exact ⟨true, rfl, fun _ => Hfin.out, hb⟩
   ·have k5 : ¬ kind = 5 := fun h => k56 (.inl h)
    have k6 : ¬ kind = 6 := fun h => k56 (.inr h)
    have HO : Hid (RV.mk kind n f s keys l).tree.Ok := hide (by
     rw [RV.tree]
     simp only [k2, k3, k5, k6, if_false]
     split
     ·exact .bool _
     ·split
      ·exact .str _
      ·exact .null)
    clear k56
    go_enter Tryz.func68, Tryz.ntmps68
    go_wp2
    go_ret
    exact ⟨true, rfl, fun _ => HO.out, hb1 _⟩

end Go.Proofs.YtbicoknghdgahaaGreat

namespace Go.Proofs.YtbicoknghdgahaaGreat
open Go.RowKit

def LawPost (w : World) (e : Ending) (w' : World) : Prop := e = .returned (.bool true) ∧ Below w.heap.size w w'

end Go.Proofs.YtbicoknghdgahaaGreat

namespace Go.Proofs.YtbicoknghdgahaaGreat
open Go.RowKit
theorem meth_Empty (n : Nat) (v : Value) (w : World) : (method (n + 1) 453 v "Empty").run Tryz.prog w = .ok (339, v) w := by kernel_rfl
attribute [local go_sem] run_store_float run_load_k meth_Free meth_Length meth_IterateUsing meth_GetUsing meth_Has meth_Empty meth_ZipUsing

end Go.Proofs.YtbicoknghdgahaaGreat

namespace Go.Proofs.YtbicoknghdgahaaGreat
open Go.RowKit
attribute [local go_sem] run_store_float run_load_k meth_Free meth_Length meth_IterateUsing meth_GetUsing meth_Has meth_Empty meth_ZipUsing

section
variable {l1 l2 : List (ByteArray × T)} {r1 r2 : Nat} {val1 val2 : ByteArray → Value} {F : Nat → Prop} {w : World} {f : FuncId} {cap : Array Value} {S : Nat → Prop} {J : List ByteArray → World → Prop} {Jf : World → Prop}

theorem ButS.keepsF (hF : ∀ b, F b → b < w.heap.size ∧ ¬ S b) {W : World} (h : ButS S w W) : Keeps F w W := fun b hb => h.block b (hF b hb).1 (hF b hb).2
end

end Go.Proofs.YtbicoknghdgahaaGreat

namespace Go.Proofs.YtbicoknghdgahaaGreat

theorem ins_last {α : Type} (k : ByteArray) (v : α) (m : List (ByteArray × α)) (h : ∀ p ∈ m, klt p.1 k = true) : ins k v m = m ++ [(k, v)] := by
 induction m with
 | nil => rfl
 | cons p m ih =>
  rw [ins, if_pos (h p (by simp)), ih fun q hq => h q (by simp [hq])]
  rfl
theorem foldl_ins_id {α : Type} (l m : List (ByteArray × α)) (h : Sorted (m ++ l)) : l.foldl (fun m p => ins p.1 p.2 m) m = m ++ l := by
 induction l generalizing m with
 | nil => simp
 | cons p l ih =>
  have hp : ∀ q ∈ m, klt q.1 p.1 = true := fun q hq => (List.pairwise_append.1 h).2.2 q hq p (by simp)
  rw [List.foldl_cons, ins_last _ _ _ hp]
  have e : m ++ p :: l = (m ++ [p]) ++ l := by simp
  rw [e] at h ⊢
  exact ih _ h
theorem mapOf_id {α : Type} {l : List (ByteArray × α)} (h : Sorted l) : mapOf (l.map Prod.fst) (l.map Prod.snd) = l := by
 unfold mapOf
 have e : (l.map Prod.fst).zip (l.map Prod.snd) = l := by
  clear h
  induction l with
  | nil => rfl
  | cons p l ih => simp [ih]
 rw [e]
 exact foldl_ins_id l [] h

inductive T.WS : T → Prop
 | null : WS .null
 | bool (b : Bool) : WS (.bool b)
 | int (n : Int) : WS (.int n)
 | flt (f : Nat) : WS (.flt f)
 | str (s : ByteArray) : WS (.str s)
 | list {l : List T} : (∀ t ∈ l, WS t) → WS (.list l)
 | map {l : List (ByteArray × T)} : Sorted l → (∀ k t, (k, t) ∈ l → WS t) → WS (.map l)

theorem tree_ws (r : RV) : r.tree.WS := by
 induction hrk : r.rank using Nat.strongRecOn generalizing r with
 | ind m ih =>
 subst hrk
 obtain ⟨kind, n, f, s, keys, l⟩ := r
 have hl : ∀ t ∈ RV.treeL l, T.WS t := by
  intro t ht
  rw [treeL_eq] at ht
  obtain ⟨r, hr, rfl⟩ := List.mem_map.1 ht
  exact ih _ (RV.rank_lt hr) r rfl
 rw [RV.tree]
 split
 ·exact .bool _
 ·split
  ·exact .int _
  ·split
   ·exact .flt _
   ·split
    ·exact .str _
    ·split
     ·exact .list hl
     ·split
      ·exact .map (mapOf_sorted _ _) fun k t ht => hl t (mapOf_mem _ _ _ ht)
      ·exact .null

theorem toRV_tree {t : T} (h : t.WS) : t.toRV.tree = t := by
 induction h with
 | null => simp [T.toRV, RV.tree]
 | bool b => cases b <;> simp [T.toRV, RV.tree]
 | int n => simp [T.toRV, RV.tree]
 | flt f => simp [T.toRV, RV.tree]
 | str s => simp [T.toRV, RV.tree]
 | @list l h ih =>
  rw [T.toRV, RV.tree, treeL_eq, toRVL_eq, List.map_map]
  have e : l.map (RV.tree ∘ T.toRV) = l := by
   rw [List.map_congr_left (f := RV.tree ∘ T.toRV) (g := id) (fun t ht => ih t ht), List.map_id]
  rw [e]
  simp
 | @map l hs h ih =>
  rw [T.toRV, RV.tree, treeL_eq, toRVM_eq, List.map_map]
  have e : l.map (RV.tree ∘ fun p => p.2.toRV) = l.map Prod.snd := List.map_congr_left fun p hp => ih p.1 p.2 hp
  rw [e, mapOf_id hs]
  simp
end Go.Proofs.YtbicoknghdgahaaGreat

namespace Go.Proofs.YtbicoknghdgahaaGreat

theorem E.eqv_iff {a b : E} (ha : a.Ok) (hb : b.Ok) : E.eqv a b = true ↔ E.cmp a b = 0 := by
 cases ha with
 | field s => cases hb <;> simp [E.cmp, E.eqv, E.ord, cmpI, cmpS_zero]
 | @key l _ h =>
  cases hb with
  | @key l' _ h' => exact eqvM_iff l l' h.fields h'.fields
  | _ => simp [E.cmp, E.eqv, E.ord, cmpI]
 | @val t h =>
  cases hb with
  | @val t' h' => exact Go.Proofs.YtbicoknghdgahaaGreat.eqv_iff t t' h h'
  | _ => simp [E.cmp, E.eqv, E.ord, cmpI]
 | idx n => cases hb <;> simp [E.cmp, E.eqv, E.ord, cmpI_zero] <;> simp [cmpI]
def vNull : RV := .mk 0 0 0 ⟨#[]⟩ [] []
def E.toREl : E → REl
 | .field s => ⟨0, s, [], [], vNull, 0⟩
 | .key l => ⟨1, ⟨#[]⟩, l.map Prod.fst, l.map fun p => p.2.toRV, vNull, 0⟩
 | .val t => ⟨2, ⟨#[]⟩, [], [], t.toRV, 0⟩
 | .idx n => ⟨3, ⟨#[]⟩, [], [], vNull, n⟩

end Go.Proofs.YtbicoknghdgahaaGreat

namespace Go.Proofs.YtbicoknghdgahaaGreat
open Go.RowKit

def GivesStrs (ks : List ByteArray) (w : World) (e : Ending) (w' : World) : Prop :=
 ∃ A c, e = .returned (.slice A ks.length c) ∧ ks.length ≤ c ∧ c ≤ maxLen ∧ Row (Fr w.heap.size w') w' 1 A ks.length (ks.map Value.string) ∧ Below w.heap.size w w'

def SKInv (w : World) (r : Nat) (ks : List ByteArray) (val : ByteArray → Value) (s3 : Value) (W : World) : Prop :=
 ∃ L left, MapRange W w.heap.size r ks val left ∧ (L ++ left).Perm ks ∧ SortK L ∧ W.ownsRow (w.heap.size + 1) 9 1 s3 L.length (L.map Value.string) ∧ Below w.heap.size w W
def SKIn (w : World) (r : Nat) (ks : List ByteArray) (val : ByteArray → Value) (left U : List ByteArray) (gr n c i : Nat) (s5 : Value) (W : World) : Prop :=
 ∃ L j, s5 = .int .i64 ((j : Nat) : Int) ∧ L.Perm U ∧ InsInv L i j ∧ L.length = n ∧ MapRange W w.heap.size r ks val left ∧ W.ownsRow (w.heap.size + 1) 9 1 (.slice (some ⟨gr, 0, none⟩) n c) n (L.map Value.string) ∧ Below w.heap.size w W

theorem skin_at {W : World} {B gr n c : Nat} {L : List ByteArray} (h : W.ownsRow B 9 1 (.slice (some ⟨gr, 0, none⟩) n c) n (L.map Value.string)) (hn : L.length = n) (j : Nat) (x : ByteArray) (hx : L[j]? = some x) : W.cell? ⟨gr, j, none⟩ = some (.string x) := by
 have hj := (List.getElem?_eq_some_iff.1 hx).1
 rw [h.cellAt j (by omega), List.getElem?_map, hx]
 rfl
theorem skin_set {w W : World} {r gr n c i m : Nat} {ks left U L : List ByteArray} {val : ByteArray → Value} {x y : ByteArray} (hr : r < w.heap.size) (hp : L.Perm U) (hin : InsInv L i (m + 1)) (hn : L.length = n) (hx : L[m + 1]? = some x) (hy : L[m]? = some y) (hlt : klt x y = true) (hmr : MapRange W w.heap.size r ks val left)
  (hrow : W.ownsRow (w.heap.size + 1) 9 1 (.slice (some ⟨gr, 0, none⟩) n c) n (L.map Value.string)) (hb : Below w.heap.size w W) :
  SKIn w r ks val left U gr n c i (.int .i64 (m : Int)) ((W.setCell ⟨gr, m + 1, none⟩ (.string y)).setCell ⟨gr, m, none⟩ (.string x)) := by
 obtain ⟨hin', hperm'⟩ := hin.step (by omega) x y hx (by simpa using hy) hlt
 have hgr := (hrow.lt gr rfl).1
 have h1 := (hrow.stored (m + 1) (.string y)).1
 have h2 := (h1.stored m (.string x)).1
 refine ⟨swapL L (m + 1) y x, m, rfl, hperm'.trans hp, hin', by simp [swapL, hn], ?_, ?_, (hb.setCell (by show w.heap.size ≤ gr; omega) _).setCell (by show w.heap.size ≤ gr; omega) _⟩
 ·refine hmr.keep ?_ ?_
  ·exact (Below.heap_setCell _ _ _ _ (by show r ≠ gr; omega)).trans (Below.heap_setCell _ _ _ _ (by show r ≠ gr; omega))
  ·exact (Below.heap_setCell _ _ _ _ (by show w.heap.size ≠ gr; omega)).trans (Below.heap_setCell _ _ _ _ (by show w.heap.size ≠ gr; omega))
 ·unfold swapL
  rw [List.map_set, List.map_set]
  simpa using h2

theorem SKIn.drewN {w W : World} {r gr n c i : Nat} {ks left U : List ByteArray} {val : ByteArray → Value} {s : Value} (h : SKIn w r ks val left U gr n c i s W) (q : Nat) : SKIn w r ks val left U gr n c i s (W.drewN q) := by
 obtain ⟨L, j, h1, h2, h3, h4, h5, h6, hb⟩ := h
 exact ⟨L, j, h1, h2, h3, h4, h5.keep rfl rfl, h6, ⟨hb.os, hb.tape, hb.output, hb.size, hb.block⟩⟩

theorem skin_start {w wr w2 w3 : World} {r : Nat} {ks L left left2 : List ByteArray} {val : ByteArray → Value} {k : ByteArray} {s3 v' : Value} (hk : k ∈ left) (hr : r < w.heap.size) (hsk : SortK L)
  (hrow : wr.ownsRow (w.heap.size + 1) 9 1 s3 L.length (L.map Value.string)) (hb : Below w.heap.size w wr) (hg : wr.grownBy w2 (some w.heap.size)) (hs : w2.heap.size = wr.heap.size) (hmr2 : MapRange w2 w.heap.size r ks val left2)
  (hrow3 : w3.ownsRow (w.heap.size + 1) 9 1 v' (L.length + 1) (L.map Value.string ++ [.string k])) (hg3 : (w2.alloc (.cells #[.string k] 9)).grownBy w3 s3.ownBlock) (hB : w.heap.size < wr.heap.size) :
  ∃ gr c, v' = .slice (some ⟨gr, 0, none⟩) (L.length + 1) c ∧ SKIn w r ks val left2 (L ++ [k]) gr (L.length + 1) c L.length (.int .i64 (L.length : Int)) w3 := by
 obtain ⟨gr, c, rfl, _⟩ := hrow3.form (by omega)
 have hne : ∀ b, b ≤ w.heap.size → some b ≠ s3.ownBlock := fun b hb e => by have := (hrow.lt b e.symm).1; omega
 refine ⟨gr, c, rfl, L ++ [k], L.length, rfl, List.Perm.refl _, ins_start (by simpa using hsk) (by simp), by simp, ?_, by simpa using hrow3, ?_⟩
 ·refine hmr2.keep ?_ ?_
  ·exact (hg3.block r (by simp; omega) (hne _ (by omega))).trans (Below.heap_alloc _ _ _ (by omega))
  ·exact (hg3.block _ (by simp; omega) (hne _ (Nat.le_refl _))).trans (Below.heap_alloc _ _ _ (by omega))
 ·exact ((hb.grown hg hb.size (fun g e => by cases e; exact Nat.le_refl _)).alloc (by rw [hs]; exact hb.size) _).grown hg3 (by simp; omega) (fun g e => by have := (hrow.lt g e).1; omega)

theorem skin_done {w W : World} {r gr c : Nat} {ks left left2 L M : List ByteArray} {val : ByteArray → Value} {k : ByteArray} (hp : M.Perm (L ++ [k])) (hs : SortK (M.take (L.length + 1))) (hlM : M.length = L.length + 1)
  (h : MapRange W w.heap.size r ks val left2 ∧ W.ownsRow (w.heap.size + 1) 9 1 (.slice (some ⟨gr, 0, none⟩) (L.length + 1) c) (L.length + 1) (M.map Value.string) ∧ Below w.heap.size w W)
  (hpm : (L ++ [k] ++ left2).Perm (L ++ left)) (hperm : (L ++ left).Perm ks) (q : Nat) : w.heap.size < (W.drewN q).heap.size ∧ SKInv w r ks val (.slice (some ⟨gr, 0, none⟩) (L.length + 1) c) (W.drewN q) := by
 obtain ⟨hmr, hrow, hb⟩ := h
 rw [List.take_of_length_le (by omega)] at hs
 refine ⟨hmr.lt, M, left2, hmr.keep rfl rfl, ((hp.append_right left2).trans hpm).trans hperm, hs, ?_, ⟨hb.os, hb.tape, hb.output, hb.size, hb.block⟩⟩
 rw [hlM]
 exact hrow

set_option maxRecDepth 100000 in
set_option maxHeartbeats 4000000 in
theorem sortedKeys_calls {r : Nat} {ks : List ByteArray} {val : ByteArray → Value} {w : World} (h : MapIs w r ks val) (hks : SortK ks) (hn : ks.length * 16 ≤ R47) :
  Calls Tryz.prog 175 #[.map (some r)] w (GivesStrs ks w) := by
 obtain ⟨i9, hi9, hz9, hs9, hb9⟩ := info_parts str_info'
 obtain ⟨hrg, hmr⟩ := h.range (P := Tryz.prog) Tryz.underlying307
 have Hmr := hide hmr
 have hrl := h.lt
 have Hks := hide hks
 have hnb : ks.length ≤ 8796093022208 := by unfold R47 at hn; omega
 clear hmr hks hn
 generalize hit : Obj.mapIter _ _ _ _ = io at Hmr hrg
 go_enter Tryz.func175, Tryz.ntmps175
 go_wp2
 go_loopw [3] (fun s wr => w.heap.size < wr.heap.size ∧ SKInv w r ks val s wr) (fun _ wr => itMes w.heap.size r ks val wr)
 case atStart => exact ⟨by simp, [], ks, Hmr.out, List.Perm.refl _, List.Pairwise.nil, World.ownsRow_nil _ _ _ _, (Below.refl _ _).alloc (Nat.le_refl _) _⟩
 case round =>
  obtain ⟨hsz, L, left, hmr, hperm, hsk, hrow, hb⟩ := hrel
  rcases hmr.next (P := Tryz.prog) 0 with ⟨rfl, hrun⟩ | ⟨k, w2, hk, hrun, hmr2, hgrow, hsize, hent⟩
  ·have hLk : L = ks := sortK_ext hsk Hks.out fun k => by simpa using hperm.mem_iff
   subst hLk
   have Hfin := hide (And.intro hrow hb)
   obtain ⟨A, c, rfl, h1, h2⟩ := own_form hrow
   clear hrow hb hsk hperm
   go_wp2
   go_ret
   refine ⟨A, c, rfl, h1, h2, Row.of_own Hfin.out.1 fun g hg => ?_, Hfin.out.2⟩
   have := Hfin.out.1.lt g hg
   exact ⟨by omega, this.2⟩
  ·have hlen : L.length + 1 ≤ ks.length := by
    have h1 := hperm.length_eq
    rw [List.length_append] at h1
    have := List.length_pos_of_mem hk
    omega
   have Hst := fun w3 v' => hide (skin_start (w3 := w3) (v' := v') hk hrl hsk hrow hb hgrow hsize hmr2 · · hsz)
   have Hm := hide hmr
   have Hperm := hide (And.intro hk hperm)
   have hrow2 : w2.ownsRow (w.heap.size + 1) 9 1 _ L.length (L.map Value.string) := hrow.kept hgrow (.inr fun e => by have := (hrow.lt _ e).1; omega)
   have Hrow2 := hide hrow2
   have hb2 : w.heap.size + 1 ≤ w2.heap.size := by omega
   obtain ⟨A0, c0, rfl, h1, h2⟩ := own_form hrow2
   have hll : (L.length : Int) ≤ 8796093022208 := by omega
   have Hsize := hide hsize
   clear hsize hrow hrow2 hb hsk hmr hmr2 hgrow hperm hk
   go_wp2_with (at_builtin; refine wpList_append_own_at _ rfl (.tmp 12) (.tmp 14) 24 rfl (w.heap.size + 1) 9 i9 _ 1 16 Tryz.underlying24 hi9 hz9 hs9 hb9 rfl (by omega) _ L.length _ rfl (Hrow2.out.alloc _) ⟨w2.heap.size, 0, none⟩ 1 1 [.string k] rfl rfl (cells_at _ [.string k] _ _ rfl) ?c1 ?c2 ?c3 ?c4 ?_)
   case c1 => simp [Value.oneCell']
   case c2 => unfold maxLen; omega
   case c3 => omega
   case c4 => simp only [World.size_alloc]; omega
   intro v' w3 hown3 hg3 _ _
   obtain ⟨gr, c, rfl, hin0⟩ := (Hst w3 v').out hown3 hg3
   have Hin0 := hide hin0
   have Hnd := hide (show (L ++ [k]).Nodup by
    have h1 := Hperm.out.2.nodup_iff.2 Hm.out.is_.nodup
    refine List.nodup_append.2 ⟨(List.nodup_append.1 h1).1, by simp, ?_⟩
    intro a ha b hb
    rw [List.mem_singleton.1 hb]
    exact (List.nodup_append.1 h1).2.2 a ha k Hperm.out.1)
   clear Hst Hrow2 hown3 hg3 hin0 hrun hent h1 h2
   have hll2 : (0 : Int) ≤ (L.length : Int) := by omega
   go_wp2_with fail
   have Hlt := hide (show (left.filter fun x => decide (x ≠ k)).length < left.length from filter_less Hperm.out.1)
   have Hpm := hide (perm_pick (vis := L) Hperm.out.1 ((List.nodup_append.1 (Hperm.out.2.nodup_iff.2 Hm.out.is_.nodup)).2.1))
   have hlen2 : L.length + 1 ≤ 8796093022208 := by omega
   generalize (left.filter fun x => decide (x ≠ k)) = left2 at Hin0 Hlt Hpm
   have HN := hide hlen
   clear hlen
   obtain ⟨wo, rfl⟩ : ∃ wo : World, wo = wr := ⟨_, rfl⟩
   go_loopw [5] (fun s wr => SKIn w r ks val left2 (L ++ [k]) gr (L.length + 1) c L.length s wr) (fun s _ => (intOf s).toNat)
   case atStart => exact Hin0.out
   case round =>
    obtain ⟨M, j, rfl, hp, hin, hlM, hmr, hrow, hb⟩ := hrel
    have hji := hin.lt
    have hnd := hide (hp.nodup_iff.2 Hnd.out)
    cases j with
    | zero =>
     have Hp := hide hp
     have Hin2 := hide hin
     have Hst := hide (And.intro hmr (And.intro hrow hb))
     have HlM := hide hlM
     clear hp hin hmr hrow hb hlM Hin0
     rw [show ((0 : Nat) : Int) = 0 from rfl]
     go_wp2_with fail
     go_quiet (fail)
     go_wp2_with fail
     refine ⟨skin_done Hp.out (Hin2.out.done_ hnd.out (.inl rfl)) HlM.out Hst.out Hpm.out Hperm.out.2 _, ?_⟩
     rw [itMes_at (Hst.out.1.keep (w' := wr.drewN _) rfl rfl), itMes_at Hm.out]
     exact Hlt.out
    | succ m =>
     obtain ⟨x, hx⟩ : ∃ x, M[m + 1]? = some x := ⟨_, List.getElem?_eq_getElem (by omega)⟩
     obtain ⟨y, hy⟩ : ∃ y, M[m]? = some y := ⟨_, List.getElem?_eq_getElem (by omega)⟩
     have qx := skin_at hrow hlM _ _ hx
     have qy := skin_at hrow hlM _ _ hy
     have b1 : (m : Int) + 1 < (L.length : Int) + 1 := by omega
     have b2 : (m : Int) < (L.length : Int) + 1 := by omega
     have b3 : (0 : Int) ≤ (m : Int) := by omega
     have b4 : (0 : Int) ≤ (m : Int) + 1 := by omega
     have b5 : (0 : Int) < (m : Int) + 1 := by omega
     have e1 : IntKind.i64.wrap ((m : Int) + 1 - 1) = (m : Int) := by rw [IntWalk.i64_in _ (by omega)]; omega
     have e2 : ((m : Int) + 1).toNat = m + 1 := by omega
     have Hp := hide hp
     have Hin2 := hide hin
     have Hst := hide (And.intro hmr (And.intro hrow hb))
     have HlM := hide hlM
     have Hx := hide hx
     have Hy := hide hy
     clear hp hin hmr hrow hb hlM Hin0 hx hy
     rw [show ((m + 1 : Nat) : Int) = (m : Int) + 1 from rfl]
     cases hlt2 : Op.bytesLess x.toList y.toList
     ·go_wp2_with fail
      go_quiet (fail)
      go_wp2_with fail
      refine ⟨skin_done Hp.out (Hin2.out.done_ hnd.out (.inr ⟨x, y, Hx.out, Hy.out, hlt2⟩)) HlM.out Hst.out Hpm.out Hperm.out.2 _, ?_⟩
      rw [itMes_at (Hst.out.1.keep (w' := wr.drewN _) rfl rfl), itMes_at Hm.out]
      exact Hlt.out
     ·go_wp2_with fail
      go_quiet (fail)
      go_wp2_with fail
      generalize hWW : wr.drewN _ = W2
      have hst2 : MapRange W2 w.heap.size r ks val left2 ∧ W2.ownsRow (w.heap.size + 1) 9 1 (.slice (some ⟨gr, 0, none⟩) (L.length + 1) c) (L.length + 1) (M.map Value.string) ∧ Below w.heap.size w W2 := by
       rw [← hWW]
       obtain ⟨h1, h2, hb⟩ := Hst.out
       exact ⟨h1.keep rfl rfl, h2, ⟨hb.os, hb.tape, hb.output, hb.size, hb.block⟩⟩
      have qx := skin_at hst2.2.1 HlM.out _ _ Hx.out
      have qy := skin_at hst2.2.1 HlM.out _ _ Hy.out
      have qf : ∀ j, W2.frozen? ⟨gr, j, none⟩ = false := fun j => hst2.2.1.frozenAt j
      have Hst2 := hide hst2
      clear hst2 hWW Hst
      go_region
      all_goals go_wp2_with fail
      exact ⟨(skin_set hrl Hp.out Hin2.out HlM.out Hx.out Hy.out hlt2 Hst2.out.1 Hst2.out.2.1 Hst2.out.2.2).drewN 1, by simp [intOf]⟩
end Go.Proofs.YtbicoknghdgahaaGreat
