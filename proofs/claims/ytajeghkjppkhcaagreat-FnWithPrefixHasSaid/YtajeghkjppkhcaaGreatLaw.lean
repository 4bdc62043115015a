/-
  Several texts in one: Box, Pairs, Orderly, LawZ.
-/
import Derived.Test.YtajeghkjppkhcaaGreatEqD
import Derived.Test.YtajeghkjppkhcaaGreatSpec
import Derived.Test.YtajeghkjppkhcaaGreatBaseO
set_option linter.unusedVariables false
set_option linter.unusedSimpArgs false
/-!
  Structs in boxes: the six cells of a value's struct.
-/

namespace Go.Proofs.YtajeghkjppkhcaaGreat
open Go.RowKit

/-- the six cells of the struct in block g -/
structure Bx (W : World) (g : Nat) (c0 c1 c2 c3 c4 c5 : Value) : Prop where
  k0 : W.cell? ⟨g, 0, none⟩ = some c0
  k1 : W.cell? ⟨g, 1, none⟩ = some c1
  k2 : W.cell? ⟨g, 2, none⟩ = some c2
  k3 : W.cell? ⟨g, 3, none⟩ = some c3
  k4 : W.cell? ⟨g, 4, none⟩ = some c4
  k5 : W.cell? ⟨g, 5, none⟩ = some c5
theorem Bx.of {W : World} {g : Nat} {t : TypeId} {c0 c1 c2 c3 c4 c5 : Value} (h : Bk W g t #[c0, c1, c2, c3, c4, c5]) : Bx W g c0 c1 c2 c3 c4 c5 := ⟨h.cell 0, h.cell 1, h.cell 2, h.cell 3, h.cell 4, h.cell 5⟩
theorem Bx.below {W W' : World} {g B : Nat} {c0 c1 c2 c3 c4 c5 : Value} (h : Bx W g c0 c1 c2 c3 c4 c5) (hb : Below B W W') (hg : g < B) : Bx W' g c0 c1 c2 c3 c4 c5 := by
  have e := (bcell hb).1
  exact ⟨(e _ _ hg).trans h.k0, (e _ _ hg).trans h.k1, (e _ _ hg).trans h.k2, (e _ _ hg).trans h.k3, (e _ _ hg).trans h.k4, (e _ _ hg).trans h.k5⟩

/-- two boxes -/
structure Bx2 (g h : Nat) (a0 a1 a2 a3 a4 a5 b0 b1 b2 b3 b4 b5 : Value) (W : World) : Prop where
  l : Bx W g a0 a1 a2 a3 a4 a5
  r : Bx W h b0 b1 b2 b3 b4 b5
theorem Bx2.below {g h : Nat} {a0 a1 a2 a3 a4 a5 b0 b1 b2 b3 b4 b5 : Value} {W W' : World} {B : Nat} (x : Bx2 g h a0 a1 a2 a3 a4 a5 b0 b1 b2 b3 b4 b5 W) (hb : Below B W W') (hg : g < B) (hh : h < B) : Bx2 g h a0 a1 a2 a3 a4 a5 b0 b1 b2 b3 b4 b5 W' := ⟨x.l.below hb hg, x.r.below hb hh⟩
theorem Bx2.drew {g h : Nat} {a0 a1 a2 a3 a4 a5 b0 b1 b2 b3 b4 b5 : Value} {W : World} (x : Bx2 g h a0 a1 a2 a3 a4 a5 b0 b1 b2 b3 b4 b5 W) : Bx2 g h a0 a1 a2 a3 a4 a5 b0 b1 b2 b3 b4 b5 W.drew := ⟨⟨x.l.k0, x.l.k1, x.l.k2, x.l.k3, x.l.k4, x.l.k5⟩, ⟨x.r.k0, x.r.k1, x.r.k2, x.r.k3, x.r.k4, x.r.k5⟩⟩
/-- two boxes that have just been made -/
theorem Bx2.made (w : World) (t s : TypeId) (a0 a1 a2 a3 a4 a5 b0 b1 b2 b3 b4 b5 : Value) : Bx2 w.heap.size (w.heap.size + 1) a0 a1 a2 a3 a4 a5 b0 b1 b2 b3 b4 b5 ((w.alloc (.cells #[a0, a1, a2, a3, a4, a5] t)).alloc (.cells #[b0, b1, b2, b3, b4, b5] s)) := by
  refine ⟨Bx.of ((Bk.new w _ _).alloc _), ?_⟩
  have := Bk.new (w.alloc (.cells #[a0, a1, a2, a3, a4, a5] t)) s #[b0, b1, b2, b3, b4, b5]
  simp only [World.size_alloc] at this
  exact Bx.of this
theorem below_two (w : World) (o p : Obj) : Below w.heap.size w ((w.alloc o).alloc p) := ((Below.refl _ _).alloc (Nat.le_refl _) _).alloc (by simp) _

theorem RVAt.at_ {w W : World} {rv : RV} {cs : List Value} (h : RVAt (Old w) w rv cs) (hb : Below w.heap.size w W) : RVAt (Old W) W rv cs :=
  (h.keeps (Keeps.below hb fun _ h => h)).mono fun _ h => Nat.lt_of_lt_of_le h hb.size
theorem ValAt.at_ {w W : World} {t : T} {v : Value} (h : ValAt (Old w) w t v) (hb : Below w.heap.size w W) : ValAt (Old W) W t v :=
  (h.keeps (Keeps.below hb fun _ h => h)).mono fun _ h => Nat.lt_of_lt_of_le h hb.size
theorem ValAt.old {F : Nat → Prop} {W : World} {t : T} {v : Value} (h : ValAt F W t v) (hF : ∀ b, F b → b < W.heap.size) : ValAt (Old W) W t v := h.mono hF
theorem below_drew {B : Nat} {w W : World} (h : Below B w W) : Below B w W.drew := ⟨h.os, h.tape, h.output, h.size, h.block⟩
theorem below_drew' {B : Nat} {w W : World} (h : Below B w.drew W) : Below B w W := ⟨h.os, h.tape, h.output, h.size, h.block⟩

/-- value.Compare, value.Equals -/
theorem compareV_calls {a b : T} {v1 v2 : Value} {w : World} (h1 : ValAt (Old w) w a v1) (h2 : ValAt (Old w) w b v2) : Calls Tryz.prog 168 #[v1, v2] w (CmpPost (T.cmp a b) w) := by
  have hb0 : ∀ o : Obj, Below w.heap.size w (w.alloc o) := fun o => (Below.refl _ _).alloc (Nat.le_refl _) _
  have Hc := fun o => hide (cmp_all a b (w.alloc o) ⟨w.heap.size, 0, none⟩ v1 v2 (h1.at_ (hb0 o)) (h2.at_ (hb0 o)))
  generalize T.cmp a b = c at Hc
  clear h1 h2
  go_enter Tryz.func168, Tryz.ntmps168
  go_wp2_with fail
  refine (Hc _).out.mono ?_
  rintro e w1 ⟨rfl, hb⟩
  have Hb := hide ((hb0 _).trans (hb.mono (by simp)))
  clear hb Hc hb0
  go_wp2
  go_ret
  exact ⟨rfl, Hb.out⟩
end Go.Proofs.YtajeghkjppkhcaaGreat

/-!
  impl.CompareValues, impl.EqualValues: what they return, of every two values.
-/

namespace Go.Proofs.YtajeghkjppkhcaaGreat
open Go.RowKit


end Go.Proofs.YtajeghkjppkhcaaGreat

/-!
  spec.Orderly and laws.floatFree: they answer, and where spec.Orderly says yes the value holds no NaN and no whole number beyond 2^53.
-/

namespace Go.Proofs.YtajeghkjppkhcaaGreat
open Go.RowKit
attribute [local go_sem] run_store_float

/-- what spec.Orderly leaves -/
def OrdPost (P : Prop) (w : World) (e : Ending) (w' : World) : Prop := ∃ b, e = .returned (.bool b) ∧ (b = true → P) ∧ Below w.heap.size w w'
def OrderlyOK (r : RV) : Prop := ∀ (w : World) (cs : List Value), RVAt (Old w) w r cs → Calls Tryz.prog 73 #[.agg cs.toArray] w (OrdPost r.tree.Ok w)

/-- at the head of a round -/
def OInv (w : World) (l : List RV) (P : RV → Prop) (s : Value) (wr : World) : Prop := ∃ k : Nat, s = .int .i64 (k : Int) ∧ k ≤ l.length ∧ (∀ i r, i < k → l[i]? = some r → P r) ∧ Below w.heap.size w wr
theorem OInv.next {l : List RV} {P : RV → Prop} {k : Nat} {r : RV} (h : ∀ i r, i < k → l[i]? = some r → P r) (hr : l[k]? = some r) (hP : P r) : ∀ i r, i < k + 1 → l[i]? = some r → P r := by
  intro i r' hi hr'
  by_cases hik : i = k
  · subst hik
    rw [hr] at hr'
    cases hr'
    exact hP
  · exact h i r' (by omega) hr'

theorem ok_list {n : Int} {f : Nat} {s : ByteArray} {keys : List ByteArray} {l : List RV} (h : ∀ i r, i < l.length → l[i]? = some r → r.tree.Ok) : (RV.mk 5 n f s keys l).tree.Ok := by
  rw [RV.tree]
  simp only [show ¬ (5 : Int) = 1 by omega, show ¬ (5 : Int) = 2 by omega, show ¬ (5 : Int) = 3 by omega, show ¬ (5 : Int) = 4 by omega, if_false, if_true]
  refine .list fun t ht => ?_
  rw [treeL_eq] at ht
  obtain ⟨r, hr, rfl⟩ := List.mem_map.1 ht
  obtain ⟨i, hi⟩ := List.getElem?_of_mem hr
  exact h i r (List.getElem?_eq_some_iff.1 hi).1 hi
theorem mapOf_mem {α : Type} (keys : List ByteArray) (l : List α) (p : ByteArray × α) (h : p ∈ mapOf keys l) : p.2 ∈ l := by
  have := foldl_ins_keys (keys.zip l) [] p h
  rcases this with h | h
  · cases h
  · exact (List.of_mem_zip h).2
theorem ok_fields {l : List RV} (keys : List ByteArray) (h : ∀ i r, i < l.length → l[i]? = some r → r.tree.Ok) : (T.map (mapOf keys (l.map RV.tree))).Ok := by
  refine .map fun k t ht => ?_
  obtain ⟨r, hr, e⟩ := List.mem_map.1 (mapOf_mem _ _ _ ht)
  obtain ⟨i, hi⟩ := List.getElem?_of_mem hr
  have e : r.tree = t := e
  rw [← e]
  exact h i r (List.getElem?_eq_some_iff.1 hi).1 hi
theorem ok_map {n : Int} {f : Nat} {s : ByteArray} {keys : List ByteArray} {l : List RV} (h : ∀ i r, i < l.length → l[i]? = some r → r.tree.Ok) : (RV.mk 6 n f s keys l).tree.Ok := by
  rw [RV.tree]
  simp only [show ¬ (6 : Int) = 1 by omega, show ¬ (6 : Int) = 2 by omega, show ¬ (6 : Int) = 3 by omega, show ¬ (6 : Int) = 4 by omega, show ¬ (6 : Int) = 5 by omega, if_false, if_true]
  rw [treeL_eq]
  exact ok_fields keys h

set_option maxRecDepth 100000 in
set_option maxHeartbeats 1000000 in
theorem orderly_all (r : RV) : OrderlyOK r := by
  induction hrk : r.rank using Nat.strongRecOn generalizing r with
  | ind m ih =>
  subst hrk
  intro w cs hrv
  cases hrv with
  | @mk kind n f s keys l KA LA kc lc xs h1 h2 h3 h4 h5 h6 h7 h8 h9 h10 h11 hKrow hLrow hx =>
  have hll : l.length ≤ 8796093022208 := by unfold R47 at h7; omega
  have Hih : ∀ r ∈ l, OrderlyOK r := fun r hr => ih _ (RV.rank_lt hr) r rfl
  have HIH := hide Hih
  have H2 := hide h2
  have HL := hide hLrow
  have HX := hide hx
  clear ih Hih h1 h2 h3 h4 h5 h6 h7 h8 h9 h10 h11 hKrow hLrow hx
  have hb1 : ∀ o : Obj, Below w.heap.size w (w.alloc o) := fun o => (Below.refl _ _).alloc (Nat.le_refl _) _
  by_cases k2 : kind = 2
  · subst k2
    have hO : (-9007199254740992 ≤ n ∧ n ≤ 9007199254740992) → (RV.mk 2 n f s keys l).tree.Ok := fun h => by
      rw [RV.tree]
      simp only [show ¬ (2 : Int) = 1 by omega, if_false, if_true]
      exact .int h.1 h.2
    have HO := hide hO
    clear hO
    rcases (by omega : (-9007199254740992 ≤ n ∧ n ≤ 9007199254740992) ∨ (¬ -9007199254740992 ≤ n ∧ n ≤ 9007199254740992) ∨ (-9007199254740992 ≤ n ∧ ¬ n ≤ 9007199254740992)) with ⟨b1, b2⟩ | ⟨b1, b2⟩ | ⟨b1, b2⟩
    all_goals
      go_enter Tryz.func73, Tryz.ntmps73
      go_wp2
      go_ret
      refine ⟨_, rfl, fun h => ?_, hb1 _⟩
      first | exact HO.out ⟨b1, b2⟩ | (exfalso; revert h; simp; omega) | (exfalso; revert h; simp)
  · by_cases k3 : kind = 3
    · subst k3
      have hO : feq f f = true → (RV.mk 3 n f s keys l).tree.Ok := fun h => by
        obtain ⟨a, ha⟩ := (feq_self f).1 h
        rw [RV.tree]
        simp only [show ¬ (3 : Int) = 1 by omega, show ¬ (3 : Int) = 2 by omega, if_false, if_true]
        exact .flt ha
      have HO := hide hO
      clear hO
      go_enter Tryz.func73, Tryz.ntmps73
      go_wp2
      go_ret
      exact ⟨_, rfl, HO.out, hb1 _⟩
    · by_cases k56 : kind = 5 ∨ kind = 6
      · have hO : (∀ i r, i < l.length → l[i]? = some r → r.tree.Ok) → (RV.mk kind n f s keys l).tree.Ok := fun h => by
          rcases k56 with rfl | rfl
          · exact ok_list h
          · exact ok_map h
        have HO := hide hO
        clear hO
        rcases k56 with rfl | rfl
        all_goals
          go_enter Tryz.func73, Tryz.ntmps73
          go_wp2
          go_loopw [30] (fun c wr => OInv w l (fun r => r.tree.Ok) c wr) (fun c _ => l.length - (intOf c).toNat)
          case atStart => exact ⟨0, rfl, Nat.zero_le _, fun i r hi => by omega, hb1 _⟩
          case round =>
            obtain ⟨k, rfl, hk, hall, hb⟩ := hrel
            by_cases hlt : k < l.length
            · have hgk : l[k]? = some l[k] := List.getElem?_eq_getElem hlt
              have hrk := HX.out k _ hgk
              have hih := HIH.out l[k] (List.getElem_mem hlt)
              generalize l[k] = r at hgk hrk hih
              have hkr := hrk
              generalize hcs : (xs.drop (k * 6)).take 6 = cs at hrk hkr
              cases hrk with
              | @mk kind' n' f' s' keys' l' KA' LA' kc' lc' xs' g1 g2 g3 g4 g5 g6 g7 g8 g9 g10 g11 g12 g13 g14 =>
              clear g1 g2 g3 g4 g5 g6 g7 g8 g9 g10 g11 g12 g13 g14
              obtain ⟨b, o, rfl, hF, k0, k1, k2, k3, k4, k5⟩ := row6_at HL.out hlt hcs
              rw [← (bcell hb).1 _ _ hF] at k0 k1 k2 k3 k4 k5
              have Hkr := hide hkr
              have Hih := hide hih
              have Hgk := hide hgk
              have Hall := hide hall
              have Hb := hide hb
              have hki0 : (0 : Int) ≤ (k : Int) := Int.natCast_nonneg _
              have hki1 : (k : Int) < (l.length : Int) := by omega
              clear hcs hkr hih hgk hall hb
              go_wp2_with fail
              refine (Hih.out _ _ (Hkr.out.at_ (Hb.out.alloc Hb.out.size _))).mono ?_
              rintro e w1 ⟨bb, rfl, hbb, hb1'⟩
              have hbw := Hb.out.trans (((Below.refl _ _).alloc (Nat.le_refl _) _).trans (hb1'.mono (by simp)) |>.mono Hb.out.size)
              have Hbw := hide hbw
              have Hbb := hide hbb
              clear hbw hbb hb1' k0 k1 k2 k3 k4 k5
              cases bb
              · go_wp2
                go_ret
                exact ⟨false, rfl, (fun h => by cases h), Hbw.out⟩
              · go_wp2
                go_roundw
                case rel => exact ⟨k + 1, by go_num, hlt, OInv.next Hall.out Hgk.out (Hbb.out (by first | exact trivial | rfl)), Hbw.out⟩
                case measure => simp [intOf]; omega
            · have hke : k = l.length := by omega
              subst hke
              have Hfin := hide (HO.out hall)
              clear hall
              go_wp2
              go_ret
              exact ⟨true, rfl, fun _ => Hfin.out, hb⟩
      · have k5 : ¬ kind = 5 := fun h => k56 (.inl h)
        have k6 : ¬ kind = 6 := fun h => k56 (.inr h)
        have HO : Hid (RV.mk kind n f s keys l).tree.Ok := hide (by
          rw [RV.tree]
          simp only [k2, k3, k5, k6, if_false]
          split
          · exact .bool _
          · split
            · exact .str _
            · exact .null)
        clear k56
        go_enter Tryz.func73, Tryz.ntmps73
        go_wp2
        go_ret
        exact ⟨true, rfl, fun _ => HO.out, hb1 _⟩

end Go.Proofs.YtajeghkjppkhcaaGreat

/-!
  What laws over two and three values stand on: their boxes, and what the calls leave.
-/

namespace Go.Proofs.YtajeghkjppkhcaaGreat
open Go.RowKit

/-- a law has answered true -/
def LawPost (w : World) (e : Ending) (w' : World) : Prop := e = .returned (.bool true) ∧ Below w.heap.size w w'

structure W3 (w : World) (a0 a1 a2 a3 a4 a5 b0 b1 b2 b3 b4 b5 c0 c1 c2 c3 c4 c5 : Value) (W : World) : Prop where
  below : Below w.heap.size w W
  size : w.heap.size + 3 ≤ W.heap.size
  a : Bx W w.heap.size a0 a1 a2 a3 a4 a5
  b : Bx W (w.heap.size + 1) b0 b1 b2 b3 b4 b5
  c : Bx W (w.heap.size + 1 + 1) c0 c1 c2 c3 c4 c5
theorem W3.call {w : World} {a0 a1 a2 a3 a4 a5 b0 b1 b2 b3 b4 b5 c0 c1 c2 c3 c4 c5 : Value} {W W' : World} (h : W3 w a0 a1 a2 a3 a4 a5 b0 b1 b2 b3 b4 b5 c0 c1 c2 c3 c4 c5 W) (hb : Below W.heap.size W W') : W3 w a0 a1 a2 a3 a4 a5 b0 b1 b2 b3 b4 b5 c0 c1 c2 c3 c4 c5 W' := by
  have := h.size
  exact ⟨h.below.trans (hb.mono h.below.size), Nat.le_trans h.size hb.size, h.a.below hb (by omega), h.b.below hb (by omega), h.c.below hb (by omega)⟩
theorem W3.made (w : World) (t : TypeId) (a0 a1 a2 a3 a4 a5 b0 b1 b2 b3 b4 b5 c0 c1 c2 c3 c4 c5 : Value) : W3 w a0 a1 a2 a3 a4 a5 b0 b1 b2 b3 b4 b5 c0 c1 c2 c3 c4 c5 (((w.alloc (.cells #[a0, a1, a2, a3, a4, a5] t)).alloc (.cells #[b0, b1, b2, b3, b4, b5] t)).alloc (.cells #[c0, c1, c2, c3, c4, c5] t)) := by
  have h := Bx2.made w t t a0 a1 a2 a3 a4 a5 b0 b1 b2 b3 b4 b5
  have hb : ∀ W : World, Below W.heap.size W (W.alloc (.cells #[c0, c1, c2, c3, c4, c5] t)) := fun W => (Below.refl _ _).alloc (Nat.le_refl _) _
  refine ⟨(below_two w _ _).trans ((hb _).mono (by simp; omega)), by simp, h.l.below (hb _) (by simp; omega), h.r.below (hb _) (by simp), ?_⟩
  have := Bk.new ((w.alloc (.cells #[a0, a1, a2, a3, a4, a5] t)).alloc (.cells #[b0, b1, b2, b3, b4, b5] t)) t #[c0, c1, c2, c3, c4, c5]
  simp only [World.size_alloc] at this
  exact Bx.of this

structure W2 (w : World) (a0 a1 a2 a3 a4 a5 b0 b1 b2 b3 b4 b5 : Value) (W : World) : Prop where
  below : Below w.heap.size w W
  size : w.heap.size + 2 ≤ W.heap.size
  a : Bx W w.heap.size a0 a1 a2 a3 a4 a5
  b : Bx W (w.heap.size + 1) b0 b1 b2 b3 b4 b5
theorem W2.call {w : World} {a0 a1 a2 a3 a4 a5 b0 b1 b2 b3 b4 b5 : Value} {W W' : World} (h : W2 w a0 a1 a2 a3 a4 a5 b0 b1 b2 b3 b4 b5 W) (hb : Below W.heap.size W W') : W2 w a0 a1 a2 a3 a4 a5 b0 b1 b2 b3 b4 b5 W' := by
  have := h.size
  exact ⟨h.below.trans (hb.mono h.below.size), Nat.le_trans h.size hb.size, h.a.below hb (by omega), h.b.below hb (by omega)⟩
theorem W2.made (w : World) (t : TypeId) (a0 a1 a2 a3 a4 a5 b0 b1 b2 b3 b4 b5 : Value) : W2 w a0 a1 a2 a3 a4 a5 b0 b1 b2 b3 b4 b5 ((w.alloc (.cells #[a0, a1, a2, a3, a4, a5] t)).alloc (.cells #[b0, b1, b2, b3, b4, b5] t)) := by
  have h := Bx2.made w t t a0 a1 a2 a3 a4 a5 b0 b1 b2 b3 b4 b5
  exact ⟨below_two w _ _, by simp, h.l, h.r⟩

end Go.Proofs.YtajeghkjppkhcaaGreat
