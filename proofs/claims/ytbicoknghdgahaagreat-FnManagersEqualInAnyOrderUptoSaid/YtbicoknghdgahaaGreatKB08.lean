/- Parts: ElemOk, SpecE, ElemSp2, PathP, PathM, PathCmp, ESetP. -/
import Derived.Test.YtbicoknghdgahaaGreatKB07
set_option linter.unusedVariables false
set_option linter.unusedSimpArgs false
namespace Go.Proofs.YtbicoknghdgahaaGreat
open Go.RowKit
attribute [local go_sem] run_store_float

theorem sorted_of_sortK {α : Type} {l : List (ByteArray × α)} (h : SortK (l.map Prod.fst)) : Sorted l := List.pairwise_map.1 h

theorem tree_toRV_all {l : List T} (h : ∀ t ∈ l, t.WS) : (l.map T.toRV).map RV.tree = l := by
 rw [List.map_map]
 conv => rhs; rw [← List.map_id l]
 exact List.map_congr_left fun t ht => toRV_tree (h t ht)
theorem zip_fst_snd {α β : Type} (l : List (α × β)) : (l.map Prod.fst).zip (l.map Prod.snd) = l := by
 induction l with
 | nil => rfl
 | cons p l ih => rw [List.map_cons, List.map_cons, List.zip_cons_cons, ih]
theorem elem_ok (r : REl) (hv : r.elem.toREl.v.tree.Ok) (hl : ∀ (i : Nat) x, i < r.elem.toREl.l.length → r.elem.toREl.l[i]? = some x → x.tree.Ok) (hk : SortK r.elem.toREl.elem.toREl.keys) : r.elem.Ok := by
 by_cases h1 : r.kind = 1
 ·have he : r.elem = .key (r.keys.zip (r.l.map RV.tree)) := by unfold REl.elem; rw [if_pos h1]
  have hws : ∀ k t, (k, t) ∈ r.keys.zip (r.l.map RV.tree) → t.WS := by
   intro k t h
   have h2 := (List.of_mem_zip h).2
   obtain ⟨x, -, rfl⟩ := List.mem_map.1 h2
   exact tree_ws x
  rw [he] at hl hk ⊢
  generalize r.keys.zip (r.l.map RV.tree) = l at *
  have hsnd : (l.map fun p => p.2.toRV).map RV.tree = l.map Prod.snd := by
   have := tree_toRV_all (l := l.map Prod.snd) fun t ht => by
    obtain ⟨p, hp, rfl⟩ := List.mem_map.1 ht
    exact hws p.1 p.2 hp
   simpa using this
  have hel : (E.key l).toREl.elem = .key l := by
   have : (E.key l).toREl.elem = .key ((l.map Prod.fst).zip ((l.map fun p => p.2.toRV).map RV.tree)) := by
    unfold REl.elem
    exact if_pos rfl
   rw [this, hsnd, zip_fst_snd]
  rw [hel] at hk
  have hk : SortK (l.map Prod.fst) := hk
  refine .key (sorted_of_sortK hk) (.map fun k t h => ?_)
  obtain ⟨i, hi, e⟩ := List.getElem_of_mem h
  have := hl i ((l.map fun p => p.2.toRV)[i]'(by simpa using hi)) (by simpa [E.toREl] using hi) (by simp [E.toREl, hi])
  rw [List.getElem_map, e, toRV_tree (hws k t h)] at this
  exact this
 ·by_cases h2 : r.kind = 2
  ·have he : r.elem = .val r.v.tree := by unfold REl.elem; rw [if_neg h1, if_pos h2]
   rw [he] at hv ⊢
   simp only [E.toREl] at hv
   rw [toRV_tree (tree_ws r.v)] at hv
   exact .val hv
  ·by_cases h3 : r.kind = 3
   ·have he : r.elem = .idx r.n := by unfold REl.elem; rw [if_neg h1, if_neg h2, if_pos h3]
    rw [he]
    exact .idx _
   ·have he : r.elem = .field r.s := by unfold REl.elem; rw [if_neg h1, if_neg h2, if_neg h3]
    rw [he]
    exact .field _

theorem ElemAt.listing {F : Nat → Prop} {w : World} {r : REl} {a b c d e f g h i : Value} {KA LA : Option Addr} {kn kc ln lc : Nat} (hr : ElemAt F w r [a, b, .slice KA kn kc, .slice LA ln lc, c, d, e, f, g, h, i]) :
  RVAt F w (LRV r.l) [.int .i64 5, .int .i64 0, .float .f64 0, .string ⟨#[]⟩, .slice none 0 0, .slice LA r.l.length lc] := by
 cases hr with
 | mk h1 h2 h3 h4 h5 => exact h3.listOf
theorem ElemAt.value {F : Nat → Prop} {w : World} {r : REl} {a b k l c d e f g h i : Value} (hr : ElemAt F w r [a, b, k, l, c, d, e, f, g, h, i]) : RVAt F w r.v [c, d, e, f, g, h] := by
 cases hr with
 | mk h1 h2 h3 h4 h5 => exact h4

set_option maxRecDepth 100000 in
set_option maxHeartbeats 4000000 in
theorem orderlyElem_calls (r : REl) (w : World) (cs : List Value) (h : ElemAt (Old w) w r cs) : Calls Tryz.prog 20 #[.agg cs.toArray] w (OrdPost r.elem.Ok w) := by
 have H := hide fun (W : World) (hb : Below w.heap.size w W) => cleanElem_calls r W _ (h.at_ hb)
 have Hok := hide (elem_ok r)
 generalize r.elem = E0 at *
 obtain ⟨r', hr'⟩ : ∃ r', E0.toREl = r' := ⟨_, rfl⟩
 rw [hr'] at H Hok
 clear hr'
 generalize E0.Ok = P at *
 obtain ⟨a0, a1, a2, a3, a4, a5, a6, a7, a8, a9, aa, ab, ac, ad, ae, af, ag, ah, ai, rfl⟩ := h.form
 clear h
 go_enter Tryz.func20, Tryz.ntmps20
 go_wp2_with fail
 have hb0 : Below w.heap.size w (w.alloc (.cells #[.int .i64 a0, .string a1, .slice a2 a3 a4, .slice a5 a6 a7, .int .i64 a8, .int .i64 a9, .float .f64 aa, .string ab, .slice ac ad ae, .slice af ag ah, .int .i64 ai] 29)) := (Below.refl _ _).alloc (Nat.le_refl _) _
 have hB0 := Bk.new w 29 #[.int .i64 a0, .string a1, .slice a2 a3 a4, .slice a5 a6 a7, .int .i64 a8, .int .i64 a9, .float .f64 aa, .string ab, .slice ac ad ae, .slice af ag ah, .int .i64 ai]
 generalize World.alloc _ _ = W at hb0 hB0 ⊢
 refine (H.out _ hb0).mono ?_
 rintro e w1 ⟨es, rfl, hes, hb1⟩
 obtain ⟨e0, e1, e2, e3, e4, e5, e6, e7, e8, e9, ea, eb, ec, ed, ee, ef, eg, eh, ei, rfl⟩ := hes.form
 have hB1 := hB0.below hb1 hB0.lt
 have hbw := hb0.trans (hb1.mono hb0.size)
 have hgl := hB0.lt
 have hes := hes.mono (G := fun b => w.heap.size + 1 ≤ b ∧ b < w1.heap.size) fun b hb => ⟨by have := hb.1; omega, hb.2⟩
 obtain ⟨rfl, rfl, -, -, -⟩ := hes.rows
 have fz : ∀ i, w1.frozen? ⟨w.heap.size, i, none⟩ = false := fun i => hB1.free i
 obtain ⟨p0, p1, p2, p3, p4, p5, p6, p7, p8, p9, p10⟩ := hB1.cells11
 have hset := set11_same (h := hB1) (c0 := .int .i64 e0) (c1 := .string e1) (c2 := .slice e2 r'.keys.length e4) (c3 := .slice e5 r'.l.length e7) (c4 := .int .i64 e8) (c5 := .int .i64 e9) (c6 := .float .f64 ea) (c7 := .string eb) (c8 := .slice ec ed ee) (c9 := .slice ef eg eh) (c10 := .int .i64 ei)
 have hsb := set11_below (.int .i64 e0) (.string e1) (.slice e2 r'.keys.length e4) (.slice e5 r'.l.length e7) (.int .i64 e8) (.int .i64 e9) (.float .f64 ea) (.string eb) (.slice ec ed ee) (.slice ef eg eh) (.int .i64 ei) hbw (Nat.le_refl w.heap.size)
 have hsh := fun b (hb : b ≠ w.heap.size) => set11_heap w1 w.heap.size (.int .i64 e0) (.string e1) (.slice e2 r'.keys.length e4) (.slice e5 r'.l.length e7) (.int .i64 e8) (.int .i64 e9) (.float .f64 ea) (.string eb) (.slice ec ed ee) (.slice ef eg eh) (.int .i64 ei) b hb
 have hsz := set11_size w1 w.heap.size (.int .i64 e0) (.string e1) (.slice e2 r'.keys.length e4) (.slice e5 r'.l.length e7) (.int .i64 e8) (.int .i64 e9) (.float .f64 ea) (.string eb) (.slice ec ed ee) (.slice ef eg eh) (.int .i64 ei)
 have hes2 := (hes.keeps (w' := set11 w1 w.heap.size (.int .i64 e0) (.string e1) (.slice e2 r'.keys.length e4) (.slice e5 r'.l.length e7) (.int .i64 e8) (.int .i64 e9) (.float .f64 ea) (.string eb) (.slice ec ed ee) (.slice ef eg eh) (.int .i64 ei)) fun b hb => hsh b (by have := hb.1; omega)).mono (G := Old (set11 w1 w.heap.size (.int .i64 e0) (.string e1) (.slice e2 r'.keys.length e4) (.slice e5 r'.l.length e7) (.int .i64 e8) (.int .i64 e9) (.float .f64 ea) (.string eb) (.slice ec ed ee) (.slice ef eg eh) (.int .i64 ei))) fun b hb => by rw [Old, hsz]; exact hb.2
 unfold set11 at hset hsb hes2
 have Hx := hide (And.intro hset (And.intro hsb hes2))
 clear hes hB0 hB1 hb0 hbw hset hsb hsh hsz hes2 hb1
 go_upto_region 2 with fail
 have hx := Hx.out
 clear Hx fz p0 p1 p2 p3 p4 p5 p6 p7 p8 p9 p10
 generalize World.setCell _ _ _ = W2 at hx ⊢
 obtain ⟨hset, hsb, hes⟩ := hx
 have HV := hide (hes.value)
 have HL := hide fun (W : World) (hb : Below W2.heap.size W2 W) => orderlyValues_calls r'.l _ _ W (hes.listing.at_ hb)
 have HK := hide fun (W : World) (hb : Below W2.heap.size W2 W) => keySorted_calls r' W _ (hes.at_ hb)
 have HO := hide (orderly_all r'.v)
 obtain ⟨p0, p1, p2, p3, p4, p5, p6, p7, p8, p9, p10⟩ := hset.cells11
 have hgl := hset.lt
 have H0 := hide (And.intro hset hsb)
 clear hset hsb hes
 generalize r'.l = l at *
 generalize r'.keys.length = kn at *
 go_wp2_with fail
 refine (HO.out _ _ HV.out).mono ?_
 rintro e w3 ⟨b, rfl, hb, hb3⟩
 have hB3 := H0.out.1.below hb3 H0.out.1.lt
 obtain ⟨p0, p1, p2, p3, p4, p5, p6, p7, p8, p9, p10⟩ := hB3.cells11
 have H3 := hide (And.intro hb hb3)
 have Hfin := hide (H0.out.2.trans (hb3.mono H0.out.2.size))
 clear hb hb3 hB3
 cases b
 ·go_wp2_with fail
  go_ret
  exact ⟨false, rfl, (fun h => Bool.noConfusion h), Hfin.out⟩
 clear Hfin
 go_wp2_with fail
 refine (HL.out _ H3.out.2).mono ?_
 rintro e w4 ⟨b, rfl, hb, hb4⟩
 have hb4 := H3.out.2.trans (hb4.mono H3.out.2.size)
 have hB3 := H0.out.1.below hb4 H0.out.1.lt
 obtain ⟨p0, p1, p2, p3, p4, p5, p6, p7, p8, p9, p10⟩ := hB3.cells11
 have H4 := hide (And.intro hb hb4)
 have Hfin := hide (H0.out.2.trans (hb4.mono H0.out.2.size))
 clear hb hb4 hB3
 cases b
 ·go_wp2_with fail
  go_ret
  exact ⟨false, rfl, (fun h => Bool.noConfusion h), Hfin.out⟩
 clear Hfin
 go_wp2_with fail
 refine (HK.out _ H4.out.2).mono ?_
 rintro e w5 ⟨b, rfl, hb, hb5⟩
 have Hb := hide (And.intro hb (H0.out.2.trans ((H4.out.2.trans (hb5.mono H4.out.2.size)).mono H0.out.2.size)))
 clear hb hb5
 go_wp2_with fail
 go_ret
 exact ⟨b, rfl, fun h => Hok.out (H3.out.1 trivial) (H4.out.1 trivial) (Hb.out.1 h), Hb.out.2⟩

end Go.Proofs.YtbicoknghdgahaaGreat

namespace Go.Proofs.YtbicoknghdgahaaGreat
open Go.RowKit
attribute [local go_sem] run_store_float

def T.kn : T → Int
 | .null => 0
 | .bool _ => 1
 | .int _ => 2
 | .flt _ => 3
 | .str _ => 4
 | .list _ => 5
 | .map _ => 6
end Go.Proofs.YtbicoknghdgahaaGreat

namespace Go.Proofs.YtbicoknghdgahaaGreat
open Go.RowKit
attribute [local go_sem] run_store_float

theorem ElemAt.parts {F : Nat → Prop} {w : World} {r : REl} {k0 n : Int} {k1 : ByteArray} {a b c d e f g i : Value} (h : ElemAt F w r [.int .i64 k0, .string k1, a, b, c, d, e, f, g, i, .int .i64 n]) : k0 = r.kind ∧ k1 = r.s ∧ n = r.n ∧ r.s.size ≤ R47 := by
 cases h with
 | mk h1 h2 h3 h4 h5 => exact ⟨rfl, rfl, rfl, h2⟩
end Go.Proofs.YtbicoknghdgahaaGreat

namespace Go.Proofs.YtbicoknghdgahaaGreat

def pcmp : List E → List E → Int
 | [], [] => 0
 | [], _ :: _ => -1
 | _ :: _, [] => 1
 | a :: p, b :: q => if E.cmp a b = 0 then pcmp p q else E.cmp a b
def peqv : List E → List E → Bool
 | [], [] => true
 | a :: p, b :: q => E.eqv a b && peqv p q
 | _, _ => false
section
variable {α : Type} {c : α → α → Int} {Ok : α → Prop} (O : TOrd c Ok)

def Alike (c : α → α → Int) : List α → List α → Prop
 | [], [] => True
 | a :: l, b :: m => c a b = 0 ∧ Alike c l m
 | _, _ => False

theorem insC_eq (e : α) (l : List α) : insC c e l = if hasC c e l = true then l else l.take (cntC c e l) ++ e :: l.drop (cntC c e l) := by
 induction l with
 | nil => simp [insC, hasC, cntC]
 | cons a l ih =>
  simp only [insC, cntC, hasC]
  by_cases h : c a e < 0
  ·simp only [h, if_true, List.getElem?_cons_succ, List.take_succ_cons, List.drop_succ_cons, List.cons_append]
   rw [ih]
   unfold hasC
   split <;> split <;> simp_all
  ·by_cases h2 : c a e = 0
   ·simp [h, h2]
   ·simp [h, h2]
theorem mem_insC {e x : α} {l : List α} (h : x ∈ insC c e l) : x = e ∨ x ∈ l := by
 induction l with
 | nil => simp [insC] at h; exact .inl h
 | cons a l ih =>
  simp only [insC] at h
  split at h
  ·rcases List.mem_cons.1 h with h | h
   ·exact .inr (by simp [h])
   ·rcases ih h with h | h
    ·exact .inl h
    ·exact .inr (by simp [h])
  ·split at h
   ·exact .inr h
   ·rcases List.mem_cons.1 h with h | h
    ·exact .inl h
    ·exact .inr h
theorem insC_ok {e : α} {l : List α} (he : Ok e) (hl : ∀ x ∈ l, Ok x) : ∀ x ∈ insC c e l, Ok x := fun x hx => by
 rcases mem_insC hx with rfl | h
 ·exact he
 ·exact hl x h
theorem insC_length (e : α) (l : List α) : (insC c e l).length ≤ l.length + 1 := by
 rw [insC_eq]
 split
 ·omega
 ·have := cntC_le (c := c) e l
  simp
  omega
theorem HasC_cons {a : α} {l : List α} {x : α} : HasC c (a :: l) x ↔ c a x = 0 ∨ HasC c l x := by simp [HasC]
include O
theorem insC_sorted {e : α} {l : List α} (he : Ok e) (hl : ∀ x ∈ l, Ok x) (hs : SortC c l) : SortC c (insC c e l) := by
 induction l with
 | nil => simp [insC, SortC]
 | cons a l ih =>
  obtain ⟨h1, h2⟩ := List.pairwise_cons.1 hs
  have ha := hl a (by simp)
  have hl' : ∀ x ∈ l, Ok x := fun x hx => hl x (by simp [hx])
  simp only [insC]
  split
  ·rename_i h
   refine List.pairwise_cons.2 ⟨fun x hx => ?_, ih hl' h2⟩
   rcases mem_insC hx with rfl | hx
   ·exact h
   ·exact h1 x hx
  ·rename_i h
   split
   ·exact hs
   ·rename_i h3
    have hlt := O.gt ha he h h3
    refine List.pairwise_cons.2 ⟨fun x hx => ?_, hs⟩
    rcases List.mem_cons.1 hx with rfl | hx
    ·exact hlt
    ·exact O.lt_trans he ha (hl' x hx) hlt (h1 x hx)
theorem HasC_insC {e x : α} {l : List α} (he : Ok e) (hx : Ok x) (hl : ∀ y ∈ l, Ok y) : HasC c (insC c e l) x ↔ c e x = 0 ∨ HasC c l x := by
 induction l with
 | nil => simp [insC, HasC]
 | cons a l ih =>
  have ha := hl a (by simp)
  have ih := ih fun y hy => hl y (by simp [hy])
  simp only [insC]
  split
  ·rw [HasC_cons, HasC_cons, ih]
   constructor
   ·rintro (h | h | h)
    ·exact .inr (.inl h)
    ·exact .inl h
    ·exact .inr (.inr h)
   ·rintro (h | h | h)
    ·exact .inr (.inl h)
    ·exact .inl h
    ·exact .inr (.inr h)
  ·split
   ·rename_i h2
    rw [HasC_cons]
    constructor
    ·exact fun h => .inr h
    ·rintro (h | h)
     ·exact .inl (O.eq_trans ha he hx h2 h)
     ·exact h
   ·rw [HasC_cons]
theorem alike_of {l m : List α} (hl : ∀ x ∈ l, Ok x) (hm : ∀ x ∈ m, Ok x) (sl : SortC c l) (sm : SortC c m) (h : ∀ x, Ok x → (HasC c l x ↔ HasC c m x)) : Alike c l m := by
 induction l generalizing m with
 | nil =>
  cases m with
  | nil => trivial
  | cons b m =>
   have := (h b (hm b (by simp))).2 ⟨b, by simp, O.self (hm b (by simp))⟩
   obtain ⟨a, ha, _⟩ := this
   cases ha
 | cons a l ih =>
  cases m with
  | nil =>
   have := (h a (hl a (by simp))).1 ⟨a, by simp, O.self (hl a (by simp))⟩
   obtain ⟨b, hb, _⟩ := this
   cases hb
  | cons b m =>
   obtain ⟨l1, l2⟩ := List.pairwise_cons.1 sl
   obtain ⟨m1, m2⟩ := List.pairwise_cons.1 sm
   have ha := hl a (by simp)
   have hb := hm b (by simp)
   have hl' : ∀ x ∈ l, Ok x := fun x hx => hl x (by simp [hx])
   have hm' : ∀ x ∈ m, Ok x := fun x hx => hm x (by simp [hx])
   have hab : c a b = 0 := by
    obtain ⟨x, hx, ex⟩ := (h a ha).1 ⟨a, by simp, O.self ha⟩
    obtain ⟨y, hy, ey⟩ := (h b hb).2 ⟨b, by simp, O.self hb⟩
    rcases List.mem_cons.1 hx with rfl | hx
    ·exact O.eq_turn hb ha ex
    ·rcases List.mem_cons.1 hy with rfl | hy
     ·exact ey
     ·have h1 := O.lt_le ha (hl' y hy) hb (l1 y hy) (by omega)
      have h2 := O.lt_le hb (hm' x hx) ha (m1 x hx) (by omega)
      have := O.turn ha hb
      omega
   refine ⟨hab, ih hl' hm' l2 m2 fun x hx => ?_⟩
   have hx' := h x hx
   have hax : (∀ y, y ∈ l → c y x = 0 → c a x < 0) := fun y hy e => O.lt_le ha (hl' y hy) hx (l1 y hy) (by omega)
   have hbx : (∀ y, y ∈ m → c y x = 0 → c b x < 0) := fun y hy e => O.lt_le hb (hm' y hy) hx (m1 y hy) (by omega)
   constructor
   ·rintro ⟨y, hy, e⟩
    obtain ⟨z, hz, ez⟩ := hx'.1 ⟨y, by simp [hy], e⟩
    rcases List.mem_cons.1 hz with rfl | hz
    ·have h1 := hax y hy e
     have h2 := O.eq_trans ha hb hx hab ez
     omega
    ·exact ⟨z, hz, ez⟩
   ·rintro ⟨y, hy, e⟩
    obtain ⟨z, hz, ez⟩ := hx'.2 ⟨y, by simp [hy], e⟩
    rcases List.mem_cons.1 hz with rfl | hz
    ·have h1 := hbx y hy e
     have h2 := O.eq_trans hb ha hx (O.eq_turn ha hb hab) ez
     omega
    ·exact ⟨z, hz, ez⟩
theorem Alike.refl {l : List α} (hl : ∀ x ∈ l, Ok x) : Alike c l l := by
 induction l with
 | nil => trivial
 | cons a l ih => exact ⟨O.self (hl a (by simp)), ih fun x hx => hl x (by simp [hx])⟩
theorem Alike.has {l m : List α} (hl : ∀ x ∈ l, Ok x) (hm : ∀ x ∈ m, Ok x) (h : Alike c l m) {x : α} (hx : Ok x) : HasC c l x ↔ HasC c m x := by
 induction l generalizing m with
 | nil => cases m with | nil => rfl | cons b m => exact h.elim
 | cons a l ih =>
  cases m with
  | nil => exact h.elim
  | cons b m =>
   rw [HasC_cons, HasC_cons, ih (fun y hy => hl y (by simp [hy])) (fun y hy => hm y (by simp [hy])) h.2]
   have ha := hl a (by simp)
   have hb := hm b (by simp)
   have e : c a x = 0 ↔ c b x = 0 := ⟨fun e => O.eq_trans hb ha hx (O.eq_turn ha hb h.1) e, fun e => O.eq_trans ha hb hx h.1 e⟩
   rw [e]
omit O in
theorem Alike.length {l m : List α} (h : Alike c l m) : l.length = m.length := by
 induction l generalizing m with
 | nil => cases m with | nil => rfl | cons b m => exact h.elim
 | cons a l ih => cases m with | nil => exact h.elim | cons b m => simp [ih h.2]
end

end Go.Proofs.YtbicoknghdgahaaGreat

namespace Go.Proofs.YtbicoknghdgahaaGreat
open Go.RowKit
attribute [local go_sem] run_store_float

def PathAt (F : Nat → Prop) (w : World) (l : List REl) (A : Option Addr) (c : Nat) : Prop := l.length * 168 ≤ R47 ∧ l.length ≤ c ∧ c ≤ maxLen ∧ ∃ xs, Row F w 11 A l.length xs ∧ Cells 11 (ElemAt F w) l xs
def PPathAt (F : Nat → Prop) (w : World) (p : List E) (A : Option Addr) (c : Nat) : Prop := p.length * 32 ≤ R47 ∧ p.length ≤ c ∧ c ≤ maxLen ∧ ∃ xs, Row F w 4 A p.length xs ∧ Cells 4 (PEAt F w) p xs
def PathsAt (F : Nat → Prop) (w : World) (ls : List (List REl)) (A : Option Addr) (c : Nat) : Prop := ls.length * 24 ≤ R47 ∧ ls.length ≤ c ∧ c ≤ maxLen ∧ ∃ xs, Row F w 1 A ls.length xs ∧ Cells 1 (fun l cs => ∃ A c, cs = [.slice A l.length c] ∧ PathAt F w l A c) ls xs
def pel (l : List REl) : List E := l.map REl.elem
theorem pel_length (l : List REl) : (pel l).length = l.length := by simp [pel]
section
variable {F G : Nat → Prop} {w w' : World} {A : Option Addr} {c : Nat}
theorem PathAt.keeps {l : List REl} (h : PathAt F w l A c) (k : Keeps F w w') : PathAt F w' l A c := by
 obtain ⟨h1, h2, h3, xs, h4, h5⟩ := h
 exact ⟨h1, h2, h3, xs, h4.keeps k, h5.mono fun _ _ h => h.keeps k⟩
theorem PathAt.mono {l : List REl} (h : PathAt F w l A c) (k : ∀ b, F b → G b) : PathAt G w l A c := by
 obtain ⟨h1, h2, h3, xs, h4, h5⟩ := h
 exact ⟨h1, h2, h3, xs, h4.mono k, h5.mono fun _ _ h => h.mono k⟩
theorem PathAt.at_ {l : List REl} (h : PathAt (Old w) w l A c) (hb : Below w.heap.size w w') : PathAt (Old w') w' l A c := (h.keeps (Keeps.below hb fun _ h => h)).mono fun _ h => Nat.lt_of_lt_of_le h hb.size
theorem PPathAt.keeps {p : List E} (h : PPathAt F w p A c) (k : Keeps F w w') : PPathAt F w' p A c := by
 obtain ⟨h1, h2, h3, xs, h4, h5⟩ := h
 exact ⟨h1, h2, h3, xs, h4.keeps k, h5.mono fun _ _ h => h.keeps k⟩
theorem PPathAt.mono {p : List E} (h : PPathAt F w p A c) (k : ∀ b, F b → G b) : PPathAt G w p A c := by
 obtain ⟨h1, h2, h3, xs, h4, h5⟩ := h
 exact ⟨h1, h2, h3, xs, h4.mono k, h5.mono fun _ _ h => h.mono k⟩
theorem PPathAt.at_ {p : List E} (h : PPathAt (Old w) w p A c) (hb : Below w.heap.size w w') : PPathAt (Old w') w' p A c := (h.keeps (Keeps.below hb fun _ h => h)).mono fun _ h => Nat.lt_of_lt_of_le h hb.size
theorem PathsAt.keeps {ls : List (List REl)} (h : PathsAt F w ls A c) (k : Keeps F w w') : PathsAt F w' ls A c := by
 obtain ⟨h1, h2, h3, xs, h4, h5⟩ := h
 exact ⟨h1, h2, h3, xs, h4.keeps k, h5.mono fun _ _ ⟨A, c, e, h⟩ => ⟨A, c, e, h.keeps k⟩⟩
theorem PathsAt.mono {ls : List (List REl)} (h : PathsAt F w ls A c) (k : ∀ b, F b → G b) : PathsAt G w ls A c := by
 obtain ⟨h1, h2, h3, xs, h4, h5⟩ := h
 exact ⟨h1, h2, h3, xs, h4.mono k, h5.mono fun _ _ ⟨A, c, e, h⟩ => ⟨A, c, e, h.mono k⟩⟩
theorem PathsAt.at_ {ls : List (List REl)} (h : PathsAt (Old w) w ls A c) (hb : Below w.heap.size w w') : PathsAt (Old w') w' ls A c := (h.keeps (Keeps.below hb fun _ h => h)).mono fun _ h => Nat.lt_of_lt_of_le h hb.size
end

section
variable {F : Nat → Prop} {w : World}
theorem Row.of_bkp {g n size : Nat} {cs : List Value} {t : TypeId} (h : Bk w g t cs.toArray) (hl : cs.length = n * size) (hF : F g) : Row F w size (some ⟨g, 0, none⟩) n cs :=
 ⟨hl, fun _ => ⟨g, 0, rfl, hF, fun j u hu => by rw [Nat.zero_add, h.cell]; simpa using hu⟩⟩
end

theorem cells_stepp {α : Type} {n m B : Nat} {e : TypeId} {Q : (Nat → Prop) → World → α → List Value → Prop} (qk : ∀ {F : Nat → Prop} {w w' : World} {a : α} {cs : List Value}, Q F w a cs → Keeps F w w' → Q F w' a cs) (qm : ∀ {F G : Nat → Prop} {w : World} {a : α} {cs : List Value}, Q F w a cs → (∀ b, F b → G b) → Q G w a cs)
  {wr w1 w2 : World} {L : List α} {a : α} {out out' : Value} {us cs : List Value} {o2 : Obj} (hown : wr.ownsRow B e n out m us) (hus : Cells n (Q (FrX B wr out) wr) L us) (hB : B ≤ wr.heap.size)
  (hv : Q (Fr wr.heap.size w1) w1 a cs) (hl : cs.length = n) (hb1 : Below wr.heap.size wr w1) (hg2 : (w1.alloc o2).grownBy w2 out.ownBlock) (hat : out'.ownBlock = out.ownBlock ∨ out'.ownBlock = some (w1.alloc o2).heap.size) :
  Cells n (Q (FrX B w2 out') w2) (L ++ [a]) (us ++ cs) ∧ B ≤ w2.heap.size := by
 have s1 := hb1.size
 have s2 := hg2.size
 simp only [World.size_alloc] at s2
 have hlt := hown.lt
 have k2 : Keeps (FrX B wr out) wr w2 := by
  rintro b ⟨q1, q2, q3⟩
  rw [hg2.block b (by simp only [World.size_alloc]; omega) q3, Below.heap_alloc _ _ _ (by omega), hb1.block b q2]
 have g2 : ∀ b, FrX B wr out b → FrX B w2 out' b := by
  rintro b ⟨q1, q2, q3⟩
  refine ⟨q1, by omega, ?_⟩
  rcases hat with e | e <;> rw [e]
  ·exact q3
  ·simp only [World.size_alloc, ne_eq, Option.some.injEq]; omega
 have k3 : Keeps (Fr wr.heap.size w1) w1 w2 := by
  rintro b ⟨q1, q2⟩
  rw [hg2.block b (by simp only [World.size_alloc]; omega) (fun e => by have := (hlt b e.symm).2; omega), Below.heap_alloc _ _ _ q2]
 have g3 : ∀ b, Fr wr.heap.size w1 b → FrX B w2 out' b := by
  rintro b ⟨q1, q2⟩
  refine ⟨by omega, by omega, ?_⟩
  rcases hat with e | e <;> rw [e]
  ·intro e'; have := (hlt b e'.symm).2; omega
  ·simp only [World.size_alloc, ne_eq, Option.some.injEq]; omega
 exact ⟨(hus.mono fun a cs h => qm (qk h k2) g2).append (Cells.one (qm (qk hv k3) g3) hl), by omega⟩


def GivesPP (p : List E) (w : World) (e : Ending) (w' : World) : Prop := ∃ A c, e = .returned (.slice A p.length c) ∧ PPathAt (Fr w.heap.size w') w' p A c ∧ Below w.heap.size w w'

theorem pe_info : (Tryz.prog.info? 109).map (fun i => (i.zero, i.size, i.bytes)) = some (some (.agg #[.pointer none, .pointer none, .pointer none, .pointer none]), 4, 32) := by kernel_rfl

def TPInv (w : World) (p : List E) (s3 s9 : Value) (W : World) : Prop :=
 ∃ (k : Nat) (us : List Value), s9 = .int .i64 (k : Int) ∧ k ≤ p.length ∧ W.ownsRow w.heap.size 109 4 s3 k us ∧ Cells 4 (PEAt (FrX w.heap.size W s3) W) (p.take k) us ∧ Below w.heap.size w W

set_option maxRecDepth 100000 in
set_option maxHeartbeats 4000000 in
theorem toPath_calls {l : List REl} {A : Option Addr} {c : Nat} {w : World} (h : PathAt (Old w) w l A c) : Calls Tryz.prog 75 #[.slice A l.length c] w (GivesPP (pel l) w) := by
 obtain ⟨h1, h2, h3, xs, h4, h5⟩ := h
 have h1' : l.length * 168 ≤ 140737488351232 := h1
 have H7 := hide (And.intro h4 h5)
 obtain ⟨i9, hi9, hz9, hs9, hb9⟩ := info_parts pe_info
 clear h1 h4 h5
 go_enter Tryz.func75, Tryz.ntmps75
 go_wp2_with fail
 have hb0 : Below w.heap.size w (w.alloc (.cells #[] 109)) := (Below.refl _ _).alloc (Nat.le_refl _) _
 have hown0 := World.ownsRow_lit (base := w.heap.size) (e := 109) (size := 4) w #[] 0 (by simp) (by simp [maxLen]) (by simp)
 have H0 := hide (And.intro hb0 hown0)
 clear hb0 hown0
 go_loopw [3, 9] (fun s3 s9 W => TPInv w (pel l) s3 s9 W) (fun _ s _ => l.length - (intOf s).toNat)
 case atStart => exact ⟨0, [], rfl, Nat.zero_le _, H0.out.2, Cells.nil_, H0.out.1⟩
 case round =>
  obtain ⟨k, us, rfl, hk, hown, hus, hb⟩ := hrel
  rw [pel_length] at hk
  by_cases hlt : k < l.length
  ·have hki0 : (0 : Int) ≤ (k : Int) := Int.natCast_nonneg _
   have hki1 : (k : Int) < (l.length : Int) := by omega
   have hx := H7.out.2.at_ hlt
   have hsn : (pel l).take (k + 1) = (pel l).take k ++ [(l[k]).elem] := by rw [List.take_succ_eq_append_getElem (by rw [pel_length]; exact hlt)]; simp [pel]
   generalize l[k] = fx at *
   generalize hcs : (xs.drop (k * 11)).take 11 = fcs at hx
   obtain ⟨a0, a1, a2, a3, a4, a5, a6, a7, a8, a9, aa, ab, ac, ad, ae, af, ag, ah, ai, rfl⟩ := hx.form
   obtain ⟨rb, ro, rfl, hF, hc⟩ := rown_at H7.out.1 hlt hcs
   have ec := (bcell hb).1
   have q0 := (ec _ _ hF).trans (hc 0 _ rfl)
   have q1 := (ec _ _ hF).trans (hc 1 _ rfl)
   have q2 := (ec _ _ hF).trans (hc 2 _ rfl)
   have q3 := (ec _ _ hF).trans (hc 3 _ rfl)
   have q4 := (ec _ _ hF).trans (hc 4 _ rfl)
   have q5 := (ec _ _ hF).trans (hc 5 _ rfl)
   have q6 := (ec _ _ hF).trans (hc 6 _ rfl)
   have q7 := (ec _ _ hF).trans (hc 7 _ rfl)
   have q8 := (ec _ _ hF).trans (hc 8 _ rfl)
   have q9 := (ec _ _ hF).trans (hc 9 _ rfl)
   have q10 := (ec _ _ hF).trans (hc 10 _ rfl)
   rw [Nat.add_zero] at q0
   have hrb : rb < w.heap.size := hF
   have HE := hide fun (W : World) (hb : Below w.heap.size w W) => toElem_calls fx W _ (hx.at_ hb)
   have Hq := hide (And.intro hown (And.intro hus (And.intro hb hsn)))
   clear hown hus hb hsn hx hcs hc ec hF
   go_wp2_with fail
   have hbA : Below wr.heap.size wr (wr.alloc (.cells #[.int .i64 a0, .string a1, .slice a2 a3 a4, .slice a5 a6 a7, .int .i64 a8, .int .i64 a9, .float .f64 aa, .string ab, .slice ac ad ae, .slice af ag ah, .int .i64 ai] 29)) := (Below.refl _ _).alloc (Nat.le_refl _) _
   have hbw := Hq.out.2.2.1.trans (hbA.mono Hq.out.2.2.1.size)
   refine (HE.out _ hbw).mono ?_
   rintro e w1 ⟨ps, rfl, hp, hb1⟩
   obtain ⟨p0, p1, p2, p3, rfl⟩ := hp.form
   have hp' : PEAt (Fr wr.heap.size w1) w1 fx.elem [.pointer p0, .pointer p1, .pointer p2, .pointer p3] := hp.mono fun b hb => ⟨by have := hb.1; rw [World.size_alloc] at this; omega, hb.2⟩
   have hb1' : Below wr.heap.size wr w1 := hbA.trans (hb1.mono hbA.size)
   have H1 := hide (And.intro hp' hb1')
   have hs0 : w.heap.size ≤ w1.heap.size := (Hq.out.2.2.1.trans (hb1'.mono Hq.out.2.2.1.size)).size
   clear hp hp' hb1 hb1' hbA hbw q0 q1 q2 q3 q4 q5 q6 q7 q8 q9 q10 HE
   obtain ⟨oA, oc, rfl, _, _⟩ := own_form Hq.out.1
   go_wp2_with (at_builtin; go_loud (refine wpList_append_row _ rfl (.tmp 13) (.tmp 16) 133 rfl w.heap.size 109 i9 _ 4 32 Tryz.underlying133 hi9 hz9 hs9 hb9 rfl (by omega) _ k us rfl ((ownsRow_below Hq.out.1 H1.out.2 (Nat.le_refl _)).alloc _) (fun _ => True) (some ⟨w1.heap.size, 0, none⟩) 1 1 [.pointer p0, .pointer p1, .pointer p2, .pointer p3] rfl (Row.of_bkp (Bk.new w1 109 [.pointer p0, .pointer p1, .pointer p2, .pointer p3].toArray) rfl trivial) (by simp [Value.oneCell']) (by omega) (by omega) (by rw [World.size_alloc]; omega) ?_))
   intro out' w2 hown2 hg2 hat2
   have hcs := cells_stepp (Q := fun F w a cs => PEAt F w a cs) (a := fx.elem) (fun h k => h.keeps k) (fun h k => h.mono k) Hq.out.1 Hq.out.2.1 Hq.out.2.2.1.size H1.out.1 rfl H1.out.2 hg2 (by rw [World.size_alloc]; exact hat2)
   have hlo := Hq.out.1.lt
   have hbf : Below w.heap.size w w2 := ((Hq.out.2.2.1.trans (H1.out.2.mono Hq.out.2.2.1.size)).alloc hs0 _).grown hg2 (by rw [World.size_alloc]; omega) fun k e => (hlo k e).1
   have Hfin := hide (And.intro hown2 (And.intro hcs (And.intro hbf Hq.out.2.2.2)))
   obtain ⟨nA, nc, rfl, _, _⟩ := own_form hown2
   clear hown2 hg2 hat2 hcs hlo hbf H1 Hq hs0
   go_wp2_with fail
   exact ⟨⟨k + 1, _, by go_num, by rw [pel_length]; omega, Hfin.out.1, by rw [Hfin.out.2.2.2]; exact Hfin.out.2.1.1, Hfin.out.2.2.1⟩, by simp [intOf]; omega⟩
  ·have hke : k = l.length := by omega
   subst hke
   have hki1 : ¬ ((l.length : Nat) : Int) < (l.length : Int) := by omega
   rw [List.take_of_length_le (by rw [pel_length]; omega)] at hus
   obtain ⟨oA, oc, rfl, hc1, hc2⟩ := own_form hown
   have hlt := hown.lt
   have hfin : PPathAt (Fr w.heap.size wr) wr (pel l) oA oc := ⟨by rw [pel_length]; unfold R47; omega, by rw [pel_length]; exact hc1, hc2, us, by rw [pel_length]; exact Row.of_own hown hlt, hus.mono fun a cs h => h.mono fun b hb => ⟨hb.1, hb.2.1⟩⟩
   have H3 := hide (And.intro hb hfin)
   have Hlm := hide (pel_length l)
   clear hb hown hus hlt hc1 hc2 hfin
   go_wp2
   go_ret
   exact ⟨oA, oc, by rw [Hlm.out]; rfl, H3.out.2, H3.out.1⟩

end Go.Proofs.YtbicoknghdgahaaGreat

namespace Go.Proofs.YtbicoknghdgahaaGreat
open Go.RowKit
attribute [local go_sem] run_store_float

def PQInv (w : World) (p q : List E) (s : Value) (W : World) : Prop := ∃ k : Nat, s = .int .i64 (k : Int) ∧ k ≤ p.length ∧ peqv p q = peqv (p.drop k) (q.drop k) ∧ Below w.heap.size w W
theorem peqv_len : ∀ {p q : List E}, p.length ≠ q.length → peqv p q = false
 | [], [], h => absurd rfl h
 | [], _ :: _, _ => rfl
 | _ :: _, [], _ => rfl
 | a :: p, b :: q, h => by rw [peqv, peqv_len (fun e => h (by simp [e])), Bool.and_false]
theorem peqv_round {p q : List E} {k : Nat} (h : peqv p q = peqv (p.drop k) (q.drop k)) (h1 : k < p.length) (h2 : k < q.length) : (E.eqv p[k] q[k] = true → peqv p q = peqv (p.drop (k + 1)) (q.drop (k + 1))) ∧ (E.eqv p[k] q[k] = false → peqv p q = false) := by
 rw [h, List.drop_eq_getElem_cons h1, List.drop_eq_getElem_cons h2, peqv]
 exact ⟨fun e => by rw [e, Bool.true_and], fun e => by rw [e, Bool.false_and]⟩

end Go.Proofs.YtbicoknghdgahaaGreat

namespace Go.Proofs.YtbicoknghdgahaaGreat

theorem elem_toREl (r : REl) : r.elem.toREl.elem = r.elem := by
 by_cases h1 : r.kind = 1
 ·have he : r.elem = .key (r.keys.zip (r.l.map RV.tree)) := by unfold REl.elem; rw [if_pos h1]
  have hws : ∀ k t, (k, t) ∈ r.keys.zip (r.l.map RV.tree) → t.WS := by
   intro k t h
   have h2 := (List.of_mem_zip h).2
   obtain ⟨x, -, rfl⟩ := List.mem_map.1 h2
   exact tree_ws x
  rw [he]
  generalize r.keys.zip (r.l.map RV.tree) = l at *
  have hsnd : (l.map fun p => p.2.toRV).map RV.tree = l.map Prod.snd := by
   have := tree_toRV_all (l := l.map Prod.snd) fun t ht => by
    obtain ⟨p, hp, rfl⟩ := List.mem_map.1 ht
    exact hws p.1 p.2 hp
   simpa using this
  have : (E.key l).toREl.elem = .key ((l.map Prod.fst).zip ((l.map fun p => p.2.toRV).map RV.tree)) := by
   unfold REl.elem
   exact if_pos rfl
  rw [this, hsnd, zip_fst_snd]
 ·by_cases h2 : r.kind = 2
  ·have he : r.elem = .val r.v.tree := by unfold REl.elem; rw [if_neg h1, if_pos h2]
   rw [he]
   have : (E.val r.v.tree).toREl.elem = .val r.v.tree.toRV.tree := rfl
   rw [this, toRV_tree (tree_ws r.v)]
  ·by_cases h3 : r.kind = 3
   ·have he : r.elem = .idx r.n := by unfold REl.elem; rw [if_neg h1, if_neg h2, if_pos h3]
    rw [he]
    rfl
   ·have he : r.elem = .field r.s := by unfold REl.elem; rw [if_neg h1, if_neg h2, if_neg h3]
    rw [he]
    rfl

def EWS (e : E) : Prop := ∃ r : REl, e = r.elem
theorem EWS.back {e : E} (h : EWS e) : e.toREl.elem = e := by
 obtain ⟨r, rfl⟩ := h
 exact elem_toREl r
theorem map_back {l : List E} (h : ∀ e ∈ l, EWS e) : (l.map E.toREl).map REl.elem = l := by
 rw [List.map_map]
 conv => rhs; rw [← List.map_id l]
 exact List.map_congr_left fun e he => (h e he).back

end Go.Proofs.YtbicoknghdgahaaGreat
