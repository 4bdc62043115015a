/- Parts: FiltC, FiltT, AlgQ. -/
import Derived.Test.YtbicoknghdgahaaGreatNA01
set_option linter.unusedVariables false
set_option linter.unusedSimpArgs false
namespace Go.Proofs.YtbicoknghdgahaaGreat
open Go.RowKit
attribute [local go_sem] run_store_float

theorem run_assert_1 (v : Value) (w : World) : (Instr.typeAssert (.iface 283 v) 20 283 true).run Tryz.prog w = .ok (.tuple #[v, .bool true]) w := by kernel_rfl
theorem run_assert_2 (v : Value) (w : World) : (Instr.typeAssert (.iface 109 v) 20 283 true).run Tryz.prog w = .ok (.tuple #[.agg #[.bool false, .pointer none, .pointer none, .pointer none, .pointer none], .bool false]) w := by kernel_rfl
theorem run_assert_3 (v : Value) (w : World) : (Instr.typeAssert (.iface 109 v) 20 109 true).run Tryz.prog w = .ok (.tuple #[v, .bool true]) w := by kernel_rfl
attribute [local go_sem] run_assert_1 run_assert_2 run_assert_3

def PartQ (F : Nat → Prop) (w : World) (o : Option E) (cs : List Value) : Prop :=
 (o = none ∧ cs = [.iface 283 (.agg #[.bool true, .pointer none, .pointer none, .pointer none, .pointer none])]) ∨ ∃ e p0 p1 p2 p3, o = some e ∧ cs = [.iface 109 (.agg #[.pointer p0, .pointer p1, .pointer p2, .pointer p3])] ∧ PEAt F w e [.pointer p0, .pointer p1, .pointer p2, .pointer p3]
theorem PartQ.keeps {F : Nat → Prop} {w w' : World} {o : Option E} {cs : List Value} (h : PartQ F w o cs) (k : Keeps F w w') : PartQ F w' o cs := by
 rcases h with h | ⟨e, p0, p1, p2, p3, h1, h2, h3⟩
 ·exact .inl h
 ·exact .inr ⟨e, p0, p1, p2, p3, h1, h2, h3.keeps k⟩
theorem PartQ.mono {F G : Nat → Prop} {w : World} {o : Option E} {cs : List Value} (h : PartQ F w o cs) (k : ∀ b, F b → G b) : PartQ G w o cs := by
 rcases h with h | ⟨e, p0, p1, p2, p3, h1, h2, h3⟩
 ·exact .inl h
 ·exact .inr ⟨e, p0, p1, p2, p3, h1, h2, h3.mono k⟩
def GivesM (F : Nat → Prop) (x : Mt) (w : World) (en : Ending) (w' : World) : Prop := ∃ h, en = .returned (.tuple #[.pointer (some ⟨h, 0, none⟩), .nilIface]) ∧ MatR (fun b => F b ∨ Fr w.heap.size w' b) w' h x ∧ Below w.heap.size w w'
def PMInv (F : Nat → Prop) (w : World) (pat : List (Option E)) (s4 s5 : Value) (W : World) : Prop :=
 ∃ (k : Nat) (z : Int) (h : Nat), s5 = .int .i64 z ∧ z + 1 = (k : Int) ∧ k ≤ pat.length ∧ s4 = .pointer (some ⟨h, 0, none⟩) ∧ MatR (fun b => F b ∨ Fr w.heap.size W b) W h (chainM (pat.drop k)) ∧ Below w.heap.size w W

def AnySetPost (w : World) (en : Ending) (w' : World) : Prop := ∃ h, en = .returned (.pointer (some ⟨h, 0, none⟩)) ∧ w.heap.size ≤ h ∧ Bk w' h 280 #[.bool true, .slice none 0 0] ∧ Below w.heap.size w w'
theorem anySet_calls (w : World) : Calls Tryz.prog 204 #[] w (AnySetPost w) := by
 go_enter Tryz.func204, Tryz.ntmps204
 go_wp2
 go_ret
 exact ⟨w.heap.size, rfl, Nat.le_refl _, Bk.new w _ _, (Below.refl _ _).alloc (Nat.le_refl _) _⟩
theorem anyMat {F : Nat → Prop} {w : World} {h : Nat} (h1 : F h) (h2 : Bk w h 280 #[.bool true, .slice none 0 0]) : MatR F w h (chainM []) :=
 MatR.of_parts (xs := []) h1 h2 (by simp [R47]) (Nat.le_refl _) (by simp [maxLen]) (Row.nil_) Cells.nil_

theorem link_at {F : Nat → Prop} {w W2 W3 : World} {g : Nat} {o : Option E} {x : Mt} {p0 p1 p2 p3 : Option Addr} (hF : ∀ b, F b → b < w.heap.size) (hb : Below w.heap.size w W2) (hm : MatR (fun b => F b ∨ Fr w.heap.size W2 b) W2 g x)
  (hp : ∀ e, o = some e → PEAt F W2 e [.pointer p0, .pointer p1, .pointer p2, .pointer p3]) (h3 : Bk W3 W2.heap.size 285 #[.bool o.isNone, .pointer p0, .pointer p1, .pointer p2, .pointer p3, .pointer (some ⟨g, 0, none⟩)])
  (h4 : Bk W3 (W2.heap.size + 1) 281 #[.pointer (some ⟨W2.heap.size, 0, none⟩)]) (h5 : Bk W3 (W2.heap.size + 2) 280 #[.bool false, .slice (some ⟨W2.heap.size + 1, 0, none⟩) 1 1]) (hb3 : Below W2.heap.size W2 W3) :
  MatR (fun b => F b ∨ Fr w.heap.size W3 b) W3 (W2.heap.size + 2) (.mk false [(o, x)]) ∧ Below w.heap.size w W3 := by
 have h23 : w.heap.size ≤ W2.heap.size := hb.size
 have l3 := h3.lt
 have l4 := h4.lt
 have l5 := h5.lt
 have hk : Keeps (fun b => F b ∨ Fr w.heap.size W2 b) W2 W3 := Keeps.below hb3 fun b hb' => by
  rcases hb' with h1 | h1
  ·have := hF b h1; omega
  ·exact h1.2
 refine ⟨MatR.of_parts (xs := [.pointer (some ⟨W2.heap.size, 0, none⟩)]) (.inr ⟨by omega, l5⟩) h5 (by simp [R47]) (Nat.le_refl _) (by simp [maxLen]) (Row.of_bkp h4 rfl (.inr ⟨by omega, l4⟩)) (Cells.one ⟨W2.heap.size, g, rfl, ⟨.inr ⟨h23, l3⟩, p0, p1, p2, p3, h3, fun e he => ?_⟩, ?_⟩ rfl), hb.trans (hb3.mono h23)⟩
 ·exact ((hp e he).keeps (fun b hb' => hk b (.inl hb'))).mono fun b hb' => .inl hb'
 ·exact (hm.keeps hk).mono fun b hb' => hb'.imp id fun h1 => ⟨h1.1, Nat.lt_of_lt_of_le h1.2 hb3.size⟩

set_option maxRecDepth 100000 in
set_option maxHeartbeats 4000000 in
theorem prefix_calls {F : Nat → Prop} {w : World} {pat : List (Option E)} {A : Option Addr} {c : Nat} {us : List Value} (hF : ∀ b, F b → b < w.heap.size) (hr : Row F w 1 A pat.length us) (hc : Cells 1 (PartQ F w) pat us) (h47 : pat.length * 16 ≤ R47) :
  Calls Tryz.prog 166 #[.slice A pat.length c] w (GivesM F (chainM pat) w) := by
 have h47' : pat.length * 16 ≤ 140737488351232 := h47
 obtain ⟨n, hn⟩ : ∃ n, pat.length = n := ⟨_, rfl⟩
 rw [hn] at hr h47' ⊢
 have H7 := hide (And.intro hr hc)
 have HF := hide hF
 have Hn := hide hn
 have HA := hide (anySet_calls w)
 clear hr hc hF hn h47
 go_enter Tryz.func166, Tryz.ntmps166
 go_wp2_with fail
 refine HA.out.mono ?_
 rintro en w1 ⟨h, rfl, hh, hbk, hb⟩
 have H0 := hide (show PMInv F w pat (.pointer (some ⟨h, 0, none⟩)) (.int .i64 ((n : Int) - 1)) w1 from ⟨n, (n : Int) - 1, h, rfl, by omega, by rw [Hn.out]; exact Nat.le_refl _, rfl, by rw [List.drop_of_length_le (by rw [Hn.out]; exact Nat.le_refl _)]; exact anyMat (.inr ⟨hh, hbk.lt⟩) hbk, hb⟩)
 clear hbk hb hh HA
 go_wp2_with fail
 go_loopw [4, 5] (fun s4 s5 W => PMInv F w pat s4 s5 W) (fun _ s _ => (intOf s + 1).toNat)
 case atStart => exact H0.out
 case round =>
  obtain ⟨k, z, g, rfl, hz, hk, rfl, hm, hb⟩ := hrel
  rw [Hn.out] at hk
  by_cases hk0 : k = 0
  ·subst hk0
   have hz' : z = -1 := by omega
   subst hz'
   have hlt : ¬ (0 : Int) ≤ -1 := by omega
   have Hm := hide (And.intro hm hb)
   clear hm hb
   go_wp2_with fail
   go_ret2
   exact ⟨g, rfl, Hm.out.1, Hm.out.2⟩
  ·obtain ⟨k, rfl⟩ : ∃ k', k = k' + 1 := ⟨k - 1, by omega⟩
   have hz' : z = (k : Int) := by omega
   subst hz'
   have hki0 : (0 : Int) ≤ (k : Int) := Int.natCast_nonneg _
   have hkn : k < n := by omega
   have hki1 : (k : Int) < (n : Int) := by omega
   have hkl : k < pat.length := by rw [Hn.out]; exact hkn
   have hx := H7.out.2.at_ hkl
   have hdr : pat.drop k = pat[k] :: pat.drop (k + 1) := List.drop_eq_getElem_cons hkl
   generalize pat[k] = o at *
   generalize hcs : (us.drop (k * 1)).take 1 = ucs at hx
   obtain ⟨x, rfl⟩ : ∃ x, ucs = [x] := by
    rcases hx with ⟨_, h⟩ | ⟨_, _, _, _, _, _, h, _⟩ <;> exact ⟨_, h⟩
   obtain ⟨rb, ro, rfl, hF1, hc1⟩ := rown_at H7.out.1 hkn hcs
   have q0 := ((bcell hb).1 _ _ (HF.out _ hF1)).trans (hc1 0 _ rfl)
   rw [Nat.mul_one, Nat.add_zero] at q0
   have hrb : rb < w.heap.size := HF.out _ hF1
   have hwe : w.heap.size ≤ wr.heap.size := hb.size
   rcases hx with ⟨ho, hx⟩ | ⟨e, p0, p1, p2, p3, ho, hx, hpe⟩
   ·cases hx
    subst ho
    have Hm := hide (And.intro hm (And.intro hb hdr))
    clear hm hb hdr hcs hc1 hF1
    obtain ⟨wo, hwo⟩ : ∃ W, W = wr := ⟨_, rfl⟩
    subst hwo
    go_upto_region 30 with fail
    have hbA : Below wo.heap.size wo ((wo.alloc (.cells #[.bool true, .pointer none, .pointer none, .pointer none, .pointer none] 283)).alloc (.cells #[.bool true, .pointer none, .pointer none, .pointer none, .pointer none] 283)) := ((Below.refl _ _).alloc (Nat.le_refl _) _).alloc (by simp) _
    have hX := (Bk.new wo 283 #[.bool true, .pointer none, .pointer none, .pointer none, .pointer none]).alloc (.cells #[.bool true, .pointer none, .pointer none, .pointer none, .pointer none] 283)
    clear q0
    generalize hwA : World.alloc (World.alloc wo _) _ = wA at hbA hX ⊢
    obtain ⟨xb, hxb⟩ : ∃ xb, wo.heap.size = xb := ⟨_, rfl⟩
    rw [hxb] at hX
    try rw [hxb]
    have x0 := hX.cell 0
    have x1 := hX.cell 1
    have x2 := hX.cell 2
    have x3 := hX.cell 3
    have x4 := hX.cell 4
    simp at x0 x1 x2 x3 x4
    have hxl := hX.lt
    have hwA' : wo.heap.size ≤ wA.heap.size := hbA.size
    have hmA : MatR (fun b => F b ∨ Fr w.heap.size wA b) wA g (chainM (pat.drop (k + 1))) := (Hm.out.1.keeps (Keeps.below hbA fun b hb' => by
     rcases hb' with h1 | h1
     ·have := HF.out b h1; omega
     ·exact h1.2)).mono fun b hb' => hb'.imp id fun h1 => ⟨h1.1, Nat.lt_of_lt_of_le h1.2 hwA'⟩
    have hbw : Below w.heap.size w wA := Hm.out.2.1.trans (hbA.mono hwe)
    have hL := link_at (o := none) (p0 := none) (p1 := none) (p2 := none) (p3 := none) HF.out hbw hmA (fun e he => by cases he)
     (((Bk.new wA 285 #[.bool true, .pointer none, .pointer none, .pointer none, .pointer none, .pointer (some ⟨g, 0, none⟩)]).alloc (.cells #[.pointer (some ⟨wA.heap.size, 0, none⟩)] 281)).alloc (.cells #[.bool false, .slice (some ⟨wA.heap.size + 1, 0, none⟩) 1 1] 280))
     (by have := (Bk.new (wA.alloc (.cells #[.bool true, .pointer none, .pointer none, .pointer none, .pointer none, .pointer (some ⟨g, 0, none⟩)] 285)) 281 #[.pointer (some ⟨wA.heap.size, 0, none⟩)]).alloc (.cells #[.bool false, .slice (some ⟨wA.heap.size + 1, 0, none⟩) 1 1] 280); simpa using this)
     (by have := Bk.new ((wA.alloc (.cells #[.bool true, .pointer none, .pointer none, .pointer none, .pointer none, .pointer (some ⟨g, 0, none⟩)] 285)).alloc (.cells #[.pointer (some ⟨wA.heap.size, 0, none⟩)] 281)) 280 #[.bool false, .slice (some ⟨wA.heap.size + 1, 0, none⟩) 1 1]; simpa using this)
     ((((Below.refl _ _).alloc (Nat.le_refl _) _).alloc (by simp) _).alloc (by simp; omega) _)
    have Hx := hide (show PMInv F w pat (.pointer (some ⟨wA.heap.size + 2, 0, none⟩)) (.int .i64 ((k : Int) - 1)) _ from ⟨k, (k : Int) - 1, wA.heap.size + 2, rfl, by omega, by rw [Hn.out]; omega, rfl, by rw [Hm.out.2.2]; exact hL.1, hL.2⟩)
    clear hwA hbA hX hmA hbw hL Hm
    go_wp2_with fail
    exact ⟨Hx.out, by simp [intOf]⟩
   ·cases hx
    subst ho
    have Hm := hide (And.intro hm (And.intro hb (And.intro hdr hpe)))
    clear hm hb hdr hcs hc1 hF1 hpe
    obtain ⟨wo, hwo⟩ : ∃ W, W = wr := ⟨_, rfl⟩
    subst hwo
    go_upto_region 30 with fail
    have hbA : Below wo.heap.size wo ((wo.alloc (.cells #[.bool false, .pointer p0, .pointer p1, .pointer p2, .pointer p3] 283)).alloc (.cells #[.pointer p0, .pointer p1, .pointer p2, .pointer p3] 109)) := ((Below.refl _ _).alloc (Nat.le_refl _) _).alloc (by simp) _
    have hX := (Bk.new wo 283 #[.bool false, .pointer p0, .pointer p1, .pointer p2, .pointer p3]).alloc (.cells #[.pointer p0, .pointer p1, .pointer p2, .pointer p3] 109)
    clear q0
    generalize hwA : World.alloc (World.alloc wo _) _ = wA at hbA hX ⊢
    obtain ⟨xb, hxb⟩ : ∃ xb, wo.heap.size = xb := ⟨_, rfl⟩
    rw [hxb] at hX
    try rw [hxb]
    have x0 := hX.cell 0
    have x1 := hX.cell 1
    have x2 := hX.cell 2
    have x3 := hX.cell 3
    have x4 := hX.cell 4
    simp at x0 x1 x2 x3 x4
    have hxl := hX.lt
    have hwA' : wo.heap.size ≤ wA.heap.size := hbA.size
    have hmA : MatR (fun b => F b ∨ Fr w.heap.size wA b) wA g (chainM (pat.drop (k + 1))) := (Hm.out.1.keeps (Keeps.below hbA fun b hb' => by
     rcases hb' with h1 | h1
     ·have := HF.out b h1; omega
     ·exact h1.2)).mono fun b hb' => hb'.imp id fun h1 => ⟨h1.1, Nat.lt_of_lt_of_le h1.2 hwA'⟩
    have hbw : Below w.heap.size w wA := Hm.out.2.1.trans (hbA.mono hwe)
    have hL := link_at (o := (some e)) (p0 := p0) (p1 := p1) (p2 := p2) (p3 := p3) HF.out hbw hmA (fun e he => by cases he; exact Hm.out.2.2.2.keeps (Keeps.below hbw HF.out))
     (((Bk.new wA 285 #[.bool false, .pointer p0, .pointer p1, .pointer p2, .pointer p3, .pointer (some ⟨g, 0, none⟩)]).alloc (.cells #[.pointer (some ⟨wA.heap.size, 0, none⟩)] 281)).alloc (.cells #[.bool false, .slice (some ⟨wA.heap.size + 1, 0, none⟩) 1 1] 280))
     (by have := (Bk.new (wA.alloc (.cells #[.bool false, .pointer p0, .pointer p1, .pointer p2, .pointer p3, .pointer (some ⟨g, 0, none⟩)] 285)) 281 #[.pointer (some ⟨wA.heap.size, 0, none⟩)]).alloc (.cells #[.bool false, .slice (some ⟨wA.heap.size + 1, 0, none⟩) 1 1] 280); simpa using this)
     (by have := Bk.new ((wA.alloc (.cells #[.bool false, .pointer p0, .pointer p1, .pointer p2, .pointer p3, .pointer (some ⟨g, 0, none⟩)] 285)).alloc (.cells #[.pointer (some ⟨wA.heap.size, 0, none⟩)] 281)) 280 #[.bool false, .slice (some ⟨wA.heap.size + 1, 0, none⟩) 1 1]; simpa using this)
     ((((Below.refl _ _).alloc (Nat.le_refl _) _).alloc (by simp) _).alloc (by simp; omega) _)
    have Hx := hide (show PMInv F w pat (.pointer (some ⟨wA.heap.size + 2, 0, none⟩)) (.int .i64 ((k : Int) - 1)) _ from ⟨k, (k : Int) - 1, wA.heap.size + 2, rfl, by omega, by rw [Hn.out]; omega, rfl, by rw [Hm.out.2.2.1]; exact hL.1, hL.2⟩)
    clear hwA hbA hX hmA hbw hL Hm
    go_wp2_with fail
    exact ⟨Hx.out, by simp [intOf]⟩

end Go.Proofs.YtbicoknghdgahaaGreat

namespace Go.Proofs.YtbicoknghdgahaaGreat
open Go.RowKit
attribute [local go_sem] run_store_float

def stepP (p : Bool × REl) : Option E := if p.1 = true then none else some p.2.elem
def patP (l : List (Bool × REl)) : List (Option E) := l.map stepP
theorem patP_length {l : List (Bool × REl)} : (patP l).length = l.length := List.length_map _
def PartAt (F : Nat → Prop) (w : World) (p : Bool × REl) (cs : List Value) : Prop := ∃ es, cs = .bool p.1 :: es ∧ ElemAt F w p.2 es
def PatAt (F : Nat → Prop) (w : World) (l : List (Bool × REl)) (A : Option Addr) (c : Nat) : Prop := l.length * 176 ≤ R47 ∧ l.length ≤ c ∧ c ≤ maxLen ∧ ∃ xs, Row F w 12 A l.length xs ∧ Cells 12 (PartAt F w) l xs
def PatsAt (F : Nat → Prop) (w : World) (ls : List (List (Bool × REl))) (A : Option Addr) (c : Nat) : Prop := ls.length * 24 ≤ R47 ∧ ls.length ≤ c ∧ c ≤ maxLen ∧ ∃ xs, Row F w 1 A ls.length xs ∧ Cells 1 (fun l cs => ∃ A c, cs = [.slice A l.length c] ∧ PatAt F w l A c) ls xs
section
variable {F G : Nat → Prop} {w w' : World} {A : Option Addr} {c : Nat}
theorem PartAt.keeps {p : Bool × REl} {cs : List Value} (h : PartAt F w p cs) (k : Keeps F w w') : PartAt F w' p cs := by
 obtain ⟨es, h1, h2⟩ := h
 exact ⟨es, h1, h2.keeps k⟩
theorem PartAt.mono {p : Bool × REl} {cs : List Value} (h : PartAt F w p cs) (k : ∀ b, F b → G b) : PartAt G w p cs := by
 obtain ⟨es, h1, h2⟩ := h
 exact ⟨es, h1, h2.mono k⟩
theorem PatAt.keeps {l : List (Bool × REl)} (h : PatAt F w l A c) (k : Keeps F w w') : PatAt F w' l A c := by
 obtain ⟨h1, h2, h3, xs, h4, h5⟩ := h
 exact ⟨h1, h2, h3, xs, h4.keeps k, h5.mono fun _ _ h => h.keeps k⟩
theorem PatAt.mono {l : List (Bool × REl)} (h : PatAt F w l A c) (k : ∀ b, F b → G b) : PatAt G w l A c := by
 obtain ⟨h1, h2, h3, xs, h4, h5⟩ := h
 exact ⟨h1, h2, h3, xs, h4.mono k, h5.mono fun _ _ h => h.mono k⟩
theorem PatsAt.keeps {ls : List (List (Bool × REl))} (h : PatsAt F w ls A c) (k : Keeps F w w') : PatsAt F w' ls A c := by
 obtain ⟨h1, h2, h3, xs, h4, h5⟩ := h
 exact ⟨h1, h2, h3, xs, h4.keeps k, h5.mono fun _ _ ⟨A, c, q1, q2⟩ => ⟨A, c, q1, q2.keeps k⟩⟩
theorem PatsAt.mono {ls : List (List (Bool × REl))} (h : PatsAt F w ls A c) (k : ∀ b, F b → G b) : PatsAt G w ls A c := by
 obtain ⟨h1, h2, h3, xs, h4, h5⟩ := h
 exact ⟨h1, h2, h3, xs, h4.mono k, h5.mono fun _ _ ⟨A, c, q1, q2⟩ => ⟨A, c, q1, q2.mono k⟩⟩
theorem PatsAt.at_ {ls : List (List (Bool × REl))} (h : PatsAt (Old w) w ls A c) (hb : Below w.heap.size w w') : PatsAt (Old w') w' ls A c := (h.keeps (Keeps.below hb fun _ h => h)).mono fun _ h => Nat.lt_of_lt_of_le h hb.size
end
def MPQ (F : Nat → Prop) (w : World) (o : List (Option E)) (cs : List Value) : Prop := ∃ h, cs = [.pointer (some ⟨h, 0, none⟩)] ∧ MatR F w h (chainM o)
theorem MPQ.keeps {F : Nat → Prop} {w w' : World} {o : List (Option E)} {cs : List Value} (h : MPQ F w o cs) (k : Keeps F w w') : MPQ F w' o cs := by
 obtain ⟨g, h1, h2⟩ := h
 exact ⟨g, h1, h2.keeps k⟩
theorem MPQ.mono {F G : Nat → Prop} {w : World} {o : List (Option E)} {cs : List Value} (h : MPQ F w o cs) (k : ∀ b, F b → G b) : MPQ G w o cs := by
 obtain ⟨g, h1, h2⟩ := h
 exact ⟨g, h1, h2.mono k⟩
def GivesMs (ps : List (List (Option E))) (w : World) (en : Ending) (w' : World) : Prop :=
 ∃ A c xs, en = .returned (.slice A ps.length c) ∧ ps.length ≤ c ∧ c ≤ maxLen ∧ Row (Fr w.heap.size w') w' 1 A ps.length xs ∧ Cells 1 (MPQ (Fr w.heap.size w') w') ps xs ∧ Below w.heap.size w w'

def AnyElPost (w : World) (en : Ending) (w' : World) : Prop := en = .returned (.agg #[.bool true, .pointer none, .pointer none, .pointer none, .pointer none]) ∧ Below w.heap.size w w'
theorem anyElem_calls (w : World) : Calls Tryz.prog 165 #[] w (AnyElPost w) := by
 go_enter Tryz.func165, Tryz.ntmps165
 go_wp2
 refine bodyPost_ret (results_cell_row rfl _ _ w.heap.size 283 #[.bool true, .pointer none, .pointer none, .pointer none, .pointer none] (0, 0) _ rfl (Bk.new w _ _) Tryz.underlying283 rfl (by kernel_rfl)) rfl ?_
 exact ⟨rfl, (Below.refl _ _).alloc (Nat.le_refl _) _⟩

theorem anyp_info : (Tryz.prog.info? 20).map (fun i => (i.zero, i.size, i.bytes)) = some (some .nilIface, 1, 16) := by kernel_rfl
theorem mptr_info : (Tryz.prog.info? 187).map (fun i => (i.zero, i.size, i.bytes)) = some (some (.pointer none), 1, 8) := by kernel_rfl

def TMtInv (w : World) (ps : List (List (Option E))) (s3 s13 : Value) (W : World) : Prop :=
 ∃ (k : Nat) (us : List Value), s13 = .int .i64 (k : Int) ∧ k ≤ ps.length ∧ W.ownsRow w.heap.size 187 1 s3 k us ∧ Cells 1 (MPQ (Aloof (fun b => w.heap.size ≤ b) W s3) W) (ps.take k) us ∧ Below w.heap.size w W
def TPrInv (wp : World) (p : List (Option E)) (s6 s19 : Value) (W : World) : Prop :=
 ∃ (k : Nat) (us : List Value), s19 = .int .i64 (k : Int) ∧ k ≤ p.length ∧ W.ownsRow wp.heap.size 20 1 s6 k us ∧ Cells 1 (PartQ (Aloof (fun b => wp.heap.size ≤ b) W s6) W) (p.take k) us ∧ Below wp.heap.size wp W

set_option maxRecDepth 100000 in
set_option maxHeartbeats 8000000 in
theorem toMatchers_calls {l : List (List (Bool × REl))} {A : Option Addr} {c : Nat} {w : World} (h : PatsAt (Old w) w l A c) : Calls Tryz.prog 108 #[.slice A l.length c] w (GivesMs (l.map patP) w) := by
 obtain ⟨h1, h2, h3, xs, h4, h5⟩ := h
 have h1' : l.length * 24 ≤ 140737488351232 := h1
 obtain ⟨n, hn⟩ : ∃ n, l.length = n := ⟨_, rfl⟩
 rw [hn] at h1' h4 ⊢
 have H7 := hide (And.intro h4 h5)
 have Hn := hide hn
 obtain ⟨i9, hi9, hz9, hs9, hb9⟩ := info_parts anyp_info
 obtain ⟨i8, hi8, hz8, hs8, hb8⟩ := info_parts mptr_info
 clear h1 h2 h3 h4 h5 hn
 go_enter Tryz.func108, Tryz.ntmps108
 go_wp2_with fail
 go_loopw [3, 13] (fun s3 s13 W => TMtInv w (l.map patP) s3 s13 W) (fun _ s _ => n - (intOf s).toNat)
 case atStart => exact ⟨0, [], rfl, Nat.zero_le _, World.ownsRow_nil _ _ _ _, by rw [List.take_zero]; exact Cells.nil_, Below.refl _ _⟩
 case round =>
  obtain ⟨k, us, rfl, hk, hown, hus, hb⟩ := hrel
  rw [List.length_map, Hn.out] at hk
  have hki0 : (0 : Int) ≤ (k : Int) := Int.natCast_nonneg _
  obtain ⟨oA, oc, rfl, hoc1, hoc2⟩ := own_form hown
  by_cases hlt : k < n
  ·have hki1 : (k : Int) < (n : Int) := by omega
   have hlt' : k < l.length := by rw [Hn.out]; exact hlt
   have hx := H7.out.2.at_ hlt'
   have hsn : (l.map patP).take (k + 1) = (l.map patP).take k ++ [patP l[k]] := by rw [List.take_succ_eq_append_getElem (by rw [List.length_map]; exact hlt')]; simp
   generalize l[k] = p at *
   generalize hcs : (xs.drop (k * 1)).take 1 = fcs at hx
   obtain ⟨pA, pc, rfl, p1, p2, p3, ys, p4, p5⟩ := hx
   obtain ⟨rb, ro, rfl, hF1, hc⟩ := rown_at H7.out.1 hlt hcs
   have q0 := ((bcell hb).1 _ _ hF1).trans (hc 0 _ rfl)
   rw [Nat.mul_one, Nat.add_zero] at q0
   have hrb : rb < w.heap.size := hF1
   have hwe : w.heap.size ≤ wr.heap.size := hb.size
   obtain ⟨m, hm⟩ : ∃ m, p.length = m := ⟨_, rfl⟩
   rw [hm] at p4 q0
   have hm47 : m * 176 ≤ 140737488351232 := by rw [← hm]; exact p1
   have Hs := hide (And.intro hown (And.intro hus (And.intro hb (And.intro hsn (And.intro hm (And.intro p4 p5))))))
   clear hown hus hb hsn hm p1 p2 p3 p4 p5 hcs hc hF1
   obtain ⟨wp, hwp⟩ : ∃ W, W = wr := ⟨_, rfl⟩
   subst hwp
   go_wp2_with fail
   go_loopw [6, 19] (fun s6 s19 W => TPrInv wp (patP p) s6 s19 W) (fun _ s _ => m - (intOf s).toNat)
   case atStart => exact ⟨0, [], rfl, Nat.zero_le _, World.ownsRow_nil _ _ _ _, by rw [List.take_zero]; exact Cells.nil_, Below.refl _ _⟩
   case round =>
    obtain ⟨j, vs, rfl, hj, hown2, hvs, hb2⟩ := hrel
    rw [patP_length, Hs.out.2.2.2.2.1] at hj
    have hji0 : (0 : Int) ≤ (j : Int) := Int.natCast_nonneg _
    have hwp : wp.heap.size ≤ wr.heap.size := hb2.size
    obtain ⟨rA, rc, rfl, hrc1, hrc2⟩ := own_form hown2
    by_cases hjl : j < m
    ·have hji1 : (j : Int) < (m : Int) := by omega
     have hjl' : j < p.length := by rw [Hs.out.2.2.2.2.1]; exact hjl
     have hx := Hs.out.2.2.2.2.2.2.at_ hjl'
     have hsn2 : (patP p).take (j + 1) = (patP p).take j ++ [stepP p[j]] := by rw [List.take_succ_eq_append_getElem (by rw [patP_length]; exact hjl')]; simp [patP]
     generalize p[j] = fx at *
     obtain ⟨fb, fe⟩ := fx
     generalize hcs : (ys.drop (j * 12)).take 12 = fcs at hx
     obtain ⟨es, rfl, hx⟩ := hx
     obtain ⟨a0, a1, a2, a3, a4, a5, a6, a7, a8, a9, aa, ab, ac, ad, ae, af, ag, ah, ai, rfl⟩ := hx.form
     obtain ⟨sb, so, rfl, hF2, hc⟩ := rown_at Hs.out.2.2.2.2.2.1 hjl hcs
     have hbw : Below w.heap.size w wr := Hs.out.2.2.1.trans (hb2.mono hwe)
     have ec := (bcell hbw).1
     have q0 := (ec _ _ hF2).trans (hc 0 _ rfl)
     have q1 := (ec _ _ hF2).trans (hc 1 _ rfl)
     have q2 := (ec _ _ hF2).trans (hc 2 _ rfl)
     have q3 := (ec _ _ hF2).trans (hc 3 _ rfl)
     have q4 := (ec _ _ hF2).trans (hc 4 _ rfl)
     have q5 := (ec _ _ hF2).trans (hc 5 _ rfl)
     have q6 := (ec _ _ hF2).trans (hc 6 _ rfl)
     have q7 := (ec _ _ hF2).trans (hc 7 _ rfl)
     have q8 := (ec _ _ hF2).trans (hc 8 _ rfl)
     have q9 := (ec _ _ hF2).trans (hc 9 _ rfl)
     have q10 := (ec _ _ hF2).trans (hc 10 _ rfl)
     have q11 := (ec _ _ hF2).trans (hc 11 _ rfl)
     rw [Nat.add_zero] at q0
     have hsb : sb < w.heap.size := hF2
     have HE := hide fun (W : World) (hb : Below w.heap.size w W) => toElem_calls fe W _ (hx.at_ hb)
     have Hq := hide (And.intro hown2 (And.intro hvs (And.intro hb2 (And.intro hsn2 hbw))))
     clear hown2 hvs hb2 hsn2 hx hcs hc ec hF2 hbw
     obtain ⟨wo, hwo⟩ : ∃ W, W = wr := ⟨_, rfl⟩
     subst hwo
     go_upto_region 9 with fail
     have hbA : Below wo.heap.size wo (wo.alloc (.cells #[.bool fb, .int .i64 a0, .string a1, .slice a2 a3 a4, .slice a5 a6 a7, .int .i64 a8, .int .i64 a9, .float .f64 aa, .string ab, .slice ac ad ae, .slice af ag ah, .int .i64 ai] 89)) := (Below.refl _ _).alloc (Nat.le_refl _) _
     have hX := Bk.new wo 89 #[.bool fb, .int .i64 a0, .string a1, .slice a2 a3 a4, .slice a5 a6 a7, .int .i64 a8, .int .i64 a9, .float .f64 aa, .string ab, .slice ac ad ae, .slice af ag ah, .int .i64 ai]
     clear q0 q1 q2 q3 q4 q5 q6 q7 q8 q9 q10 q11
     generalize hwA : World.alloc wo _ = wA at hbA hX ⊢
     obtain ⟨xb, hxb⟩ : ∃ xb, wo.heap.size = xb := ⟨_, rfl⟩
     rw [hxb] at hX
     try rw [hxb]
     have hwoA : wo.heap.size ≤ wA.heap.size := hbA.size
     have hxl := hX.lt
     have x0 := hX.cell 0
     have x1 := hX.cell 1
     have x2 := hX.cell 2
     have x3 := hX.cell 3
     have x4 := hX.cell 4
     have x5 := hX.cell 5
     have x6 := hX.cell 6
     have x7 := hX.cell 7
     have x8 := hX.cell 8
     have x9 := hX.cell 9
     have x10 := hX.cell 10
     have x11 := hX.cell 11
     simp at x0 x1 x2 x3 x4 x5 x6 x7 x8 x9 x10 x11
     have HA := hide hbA
     clear hX hbA hwA
     cases fb
     ·have HN := hide (HE.out wA (Hq.out.2.2.2.2.trans (HA.out.mono (Nat.le_trans hwe hwp))))
      go_wp2_with fail
      refine HN.out.mono ?_
      rintro en w3 ⟨ps, rfl, hp, hb3⟩
      obtain ⟨p0, p1, p2, p3, rfl⟩ := hp.form
      have hb03 := HA.out.trans (hb3.mono hwoA)
      have hw3 : wA.heap.size ≤ w3.heap.size := hb3.size
      have hown3 := ownsRow_below Hq.out.1 hb03 (Nat.le_refl _)
      have hvs3 := aloof_below (Q := PartQ) (fun h k => PartQ.keeps h k) (fun h k => PartQ.mono h k) Hq.out.2.1 hb03
      have hlo := Hq.out.1.lt
      have H3 := hide (And.intro hown3 (And.intro hvs3 (And.intro (Hq.out.2.2.1.trans (hb03.mono hwp)) (And.intro hlo hp))))
      clear hb3 hb03 hown3 hvs3 hlo HN HE hp x0 x1 x2 x3 x4 x5 x6 x7 x8 x9 x10 x11
      go_wp2_with (at_builtin; go_loud (refine wpList_append_row _ rfl (.tmp 30) (.tmp 35) 292 rfl wp.heap.size 20 i9 _ 1 16 Tryz.underlying292 hi9 hz9 hs9 hb9 rfl (by omega) (.slice rA j rc) j vs rfl (H3.out.1.alloc _) (fun _ => True) (some ⟨w3.heap.size, 0, none⟩) 1 1 [.iface 109 (.agg #[.pointer p0, .pointer p1, .pointer p2, .pointer p3])] rfl (Row.of_bkp (Bk.new w3 20 ([.iface 109 (.agg #[.pointer p0, .pointer p1, .pointer p2, .pointer p3])] : List Value).toArray) rfl trivial) (by simp [Value.oneCell']) (by omega) (by omega) (by rw [World.size_alloc]; omega) ?_))
      intro v8 w8 hown8 hg8 hat8
      have hbB : Below w3.heap.size w3 (w3.alloc (.cells #[.iface 109 (.agg #[.pointer p0, .pointer p1, .pointer p2, .pointer p3])] 20)) := (Below.refl _ _).alloc (Nat.le_refl _) _
      have hitem : PartQ (Aloof (fun b => wp.heap.size ≤ b) (w3.alloc (.cells #[.iface 109 (.agg #[.pointer p0, .pointer p1, .pointer p2, .pointer p3])] 20)) (.slice rA j rc)) (w3.alloc (.cells #[.iface 109 (.agg #[.pointer p0, .pointer p1, .pointer p2, .pointer p3])] 20)) (stepP (false, fe)) [.iface 109 (.agg #[.pointer p0, .pointer p1, .pointer p2, .pointer p3])] :=
       .inr ⟨fe.elem, p0, p1, p2, p3, rfl, rfl, (H3.out.2.2.2.2.keeps (Keeps.below hbB fun b hb => hb.2)).mono fun b hb => ⟨by have h1 : wA.heap.size ≤ b := hb.1; show wp.heap.size ≤ b; omega, by rw [World.size_alloc]; have := hb.2; omega, fun e => by have h1 : wA.heap.size ≤ b := hb.1; have := (H3.out.2.2.2.1 b e).2; omega⟩⟩
      have hcel8 := aloof_step (Q := PartQ) (fun h k => PartQ.keeps h k) (fun h k => PartQ.mono h k) (s' := v8) (aloof_below (Q := PartQ) (fun h k => PartQ.keeps h k) (fun h k => PartQ.mono h k) H3.out.2.1 hbB) (Cells.one hitem rfl) hg8 (by rw [World.size_alloc]; exact hat8)
      have hbw8 : Below wp.heap.size wp w8 := (H3.out.2.2.1.trans (hbB.mono H3.out.2.2.1.size)).grown hg8 (by rw [World.size_alloc]; omega) fun b e => (H3.out.2.2.2.1 b e).1
      obtain ⟨nA, nc, rfl, _, _⟩ := own_form hown8
      have Hx := hide (show TPrInv wp (patP p) (.slice nA (j + 1) nc) (.int .i64 ((j + 1 : Nat) : Int)) w8 from ⟨j + 1, vs ++ [.iface 109 (.agg #[.pointer p0, .pointer p1, .pointer p2, .pointer p3])], rfl, by rw [patP_length, Hs.out.2.2.2.2.1]; omega, hown8, by rw [Hq.out.2.2.2.1]; exact hcel8, hbw8⟩)
      clear hown8 hg8 hat8 hbB hitem hcel8 hbw8 H3
      go_wp2_with fail
      exact ⟨Hx.out, by simp [intOf]; omega⟩
     ·have HN := hide (anyElem_calls wA)
      go_wp2_with fail
      refine HN.out.mono ?_
      rintro en w3 ⟨rfl, hb3⟩
      have hb03 := HA.out.trans (hb3.mono hwoA)
      have hw3 : wA.heap.size ≤ w3.heap.size := hb3.size
      have hown3 := ownsRow_below Hq.out.1 hb03 (Nat.le_refl _)
      have hvs3 := aloof_below (Q := PartQ) (fun h k => PartQ.keeps h k) (fun h k => PartQ.mono h k) Hq.out.2.1 hb03
      have hlo := Hq.out.1.lt
      have H3 := hide (And.intro hown3 (And.intro hvs3 (And.intro (Hq.out.2.2.1.trans (hb03.mono hwp)) hlo)))
      clear hb3 hb03 hown3 hvs3 hlo HN x0 x1 x2 x3 x4 x5 x6 x7 x8 x9 x10 x11
      go_wp2_with (at_builtin; go_loud (refine wpList_append_row _ rfl (.tmp 25) (.tmp 28) 292 rfl wp.heap.size 20 i9 _ 1 16 Tryz.underlying292 hi9 hz9 hs9 hb9 rfl (by omega) (.slice rA j rc) j vs rfl (H3.out.1.alloc _) (fun _ => True) (some ⟨w3.heap.size, 0, none⟩) 1 1 [.iface 283 (.agg #[.bool true, .pointer none, .pointer none, .pointer none, .pointer none])] rfl (Row.of_bkp (Bk.new w3 20 ([.iface 283 (.agg #[.bool true, .pointer none, .pointer none, .pointer none, .pointer none])] : List Value).toArray) rfl trivial) (by simp [Value.oneCell']) (by omega) (by omega) (by rw [World.size_alloc]; omega) ?_))
      intro v8 w8 hown8 hg8 hat8
      have hbB : Below w3.heap.size w3 (w3.alloc (.cells #[.iface 283 (.agg #[.bool true, .pointer none, .pointer none, .pointer none, .pointer none])] 20)) := (Below.refl _ _).alloc (Nat.le_refl _) _
      have hitem : PartQ (Aloof (fun b => wp.heap.size ≤ b) (w3.alloc (.cells #[.iface 283 (.agg #[.bool true, .pointer none, .pointer none, .pointer none, .pointer none])] 20)) (.slice rA j rc)) (w3.alloc (.cells #[.iface 283 (.agg #[.bool true, .pointer none, .pointer none, .pointer none, .pointer none])] 20)) (stepP (true, fe)) [.iface 283 (.agg #[.bool true, .pointer none, .pointer none, .pointer none, .pointer none])] := .inl ⟨rfl, rfl⟩
      have hcel8 := aloof_step (Q := PartQ) (fun h k => PartQ.keeps h k) (fun h k => PartQ.mono h k) (s' := v8) (aloof_below (Q := PartQ) (fun h k => PartQ.keeps h k) (fun h k => PartQ.mono h k) H3.out.2.1 hbB) (Cells.one hitem rfl) hg8 (by rw [World.size_alloc]; exact hat8)
      have hbw8 : Below wp.heap.size wp w8 := (H3.out.2.2.1.trans (hbB.mono H3.out.2.2.1.size)).grown hg8 (by rw [World.size_alloc]; omega) fun b e => (H3.out.2.2.2 b e).1
      obtain ⟨nA, nc, rfl, _, _⟩ := own_form hown8
      have Hx := hide (show TPrInv wp (patP p) (.slice nA (j + 1) nc) (.int .i64 ((j + 1 : Nat) : Int)) w8 from ⟨j + 1, vs ++ [.iface 283 (.agg #[.bool true, .pointer none, .pointer none, .pointer none, .pointer none])], rfl, by rw [patP_length, Hs.out.2.2.2.2.1]; omega, hown8, by rw [Hq.out.2.2.2.1]; exact hcel8, hbw8⟩)
      clear hown8 hg8 hat8 hbB hitem hcel8 hbw8 H3
      go_wp2_with fail
      exact ⟨Hx.out, by simp [intOf]; omega⟩
    ·have hjm : j = m := by omega
     subst hjm
     have hji1 : ¬ ((j : Nat) : Int) < (j : Int) := by omega
     have htk : (patP p).take j = patP p := List.take_of_length_le (by rw [patP_length, Hs.out.2.2.2.2.1]; exact Nat.le_refl _)
     rw [htk] at hvs
     have hpl : (patP p).length = j := by rw [patP_length, Hs.out.2.2.2.2.1]
     have hlo := hown2.lt
     have HPx := hide (prefix_calls (F := fun b => wp.heap.size ≤ b ∧ b < wr.heap.size) (w := wr) (pat := patP p) (A := rA) (c := rc) (us := vs) (fun b hb => hb.2) (by rw [hpl]; exact Row.of_own hown2 fun b hb => hlo b hb) (hvs.mono fun _ _ h => PartQ.mono h fun b hb => ⟨hb.1, hb.2.1⟩) (by rw [hpl]; unfold R47; omega))
     rw [hpl] at HPx
     have Hb2 := hide hb2
     clear hown2 hvs hb2 htk hpl hlo
     go_wp2_with fail
     refine HPx.out.mono ?_
     rintro en w3 ⟨g, rfl, hmr, hb3⟩
     have hb03 : Below wp.heap.size wp w3 := Hb2.out.trans (hb3.mono hwp)
     have hw3 : wr.heap.size ≤ w3.heap.size := hb3.size
     have hown3 := ownsRow_below Hs.out.1 hb03 (Nat.le_refl _)
     have hvs3 := aloof_below (Q := MPQ) (fun h k => MPQ.keeps h k) (fun h k => MPQ.mono h k) Hs.out.2.1 hb03
     have hlo := Hs.out.1.lt
     have H3 := hide (And.intro hown3 (And.intro hvs3 (And.intro (Hs.out.2.2.1.trans (hb03.mono hwe)) (And.intro hlo hmr))))
     clear hb3 hb03 hown3 hvs3 hlo HPx hmr Hb2
     go_wp2_with (at_builtin; go_loud (refine wpList_append_row _ rfl (.tmp 45) (.tmp 47) 192 rfl w.heap.size 187 i8 _ 1 8 Tryz.underlying192 hi8 hz8 hs8 hb8 rfl (by omega) (.slice oA k oc) k us rfl (H3.out.1.alloc _) (fun _ => True) (some ⟨w3.heap.size, 0, none⟩) 1 1 [.pointer (some ⟨g, 0, none⟩)] rfl (Row.of_bkp (Bk.new w3 187 ([.pointer (some ⟨g, 0, none⟩)] : List Value).toArray) rfl trivial) (by simp [Value.oneCell']) (by omega) (by omega) (by rw [World.size_alloc]; omega) ?_))
     intro v8 w8 hown8 hg8 hat8
     have hbB : Below w3.heap.size w3 (w3.alloc (.cells #[.pointer (some ⟨g, 0, none⟩)] 187)) := (Below.refl _ _).alloc (Nat.le_refl _) _
     have hFl : ∀ b, ((wp.heap.size ≤ b ∧ b < wr.heap.size) ∨ Fr wr.heap.size w3 b) → wp.heap.size ≤ b ∧ b < w3.heap.size := fun b hb => by
      rcases hb with h1 | h1
      ·exact ⟨h1.1, by omega⟩
      ·have h2 : wr.heap.size ≤ b := h1.1
       exact ⟨by omega, h1.2⟩
     have hitem : MPQ (Aloof (fun b => w.heap.size ≤ b) (w3.alloc (.cells #[.pointer (some ⟨g, 0, none⟩)] 187)) (.slice oA k oc)) (w3.alloc (.cells #[.pointer (some ⟨g, 0, none⟩)] 187)) (patP p) [.pointer (some ⟨g, 0, none⟩)] :=
      ⟨g, rfl, (H3.out.2.2.2.2.keeps (Keeps.below hbB fun b hb => (hFl b hb).2)).mono fun b hb => ⟨by have := (hFl b hb).1; show w.heap.size ≤ b; omega, by rw [World.size_alloc]; have := (hFl b hb).2; omega, fun e => by have := (hFl b hb).1; have := (H3.out.2.2.2.1 b e).2; omega⟩⟩
     have hcel8 := aloof_step (Q := MPQ) (fun h k => MPQ.keeps h k) (fun h k => MPQ.mono h k) (s' := v8) (aloof_below (Q := MPQ) (fun h k => MPQ.keeps h k) (fun h k => MPQ.mono h k) H3.out.2.1 hbB) (Cells.one hitem rfl) hg8 (by rw [World.size_alloc]; exact hat8)
     have hbw8 : Below w.heap.size w w8 := (H3.out.2.2.1.trans (hbB.mono H3.out.2.2.1.size)).grown hg8 (by rw [World.size_alloc]; omega) fun b e => (H3.out.2.2.2.1 b e).1
     obtain ⟨nA, nc, rfl, _, _⟩ := own_form hown8
     have Hx := hide (show TMtInv w (l.map patP) (.slice nA (k + 1) nc) (.int .i64 ((k + 1 : Nat) : Int)) w8 from ⟨k + 1, us ++ [.pointer (some ⟨g, 0, none⟩)], rfl, by rw [List.length_map, Hn.out]; omega, hown8, by rw [Hs.out.2.2.2.1]; exact hcel8, hbw8⟩)
     clear hown8 hg8 hat8 hbB hitem hcel8 hbw8 H3 hFl
     go_wp2_with fail
     exact ⟨Hx.out, by simp [intOf]; omega⟩
  ·have hke : k = n := by omega
   subst hke
   have hki1 : ¬ ((k : Nat) : Int) < (k : Int) := by omega
   have htk : (l.map patP).take k = l.map patP := List.take_of_length_le (by rw [List.length_map, Hn.out]; exact Nat.le_refl _)
   rw [htk] at hus
   have hpl : (l.map patP).length = k := by rw [List.length_map, Hn.out]
   have hlo := hown.lt
   have Hf := hide (show GivesMs (l.map patP) w (.returned (.slice oA k oc)) wr from ⟨oA, oc, us, by rw [hpl], by rw [hpl]; exact hoc1, hoc2, by rw [hpl]; exact Row.of_own hown fun b hb => hlo b hb, hus.mono fun _ _ h => MPQ.mono h fun b hb => ⟨hb.1, hb.2.1⟩, hb⟩)
   clear hown hus hb htk hpl hlo
   go_wp2
   go_ret
   exact Hf.out

end Go.Proofs.YtbicoknghdgahaaGreat

namespace Go.Proofs.YtbicoknghdgahaaGreat

theorem pathsK_append (a b : List (E × St)) : St.pathsK (a ++ b) = St.pathsK a ++ St.pathsK b := by
 induction a with
 | nil => rfl
 | cons k a ih => obtain ⟨e, s⟩ := k; rw [List.cons_append, St.pathsK, St.pathsK, ih, List.append_assoc]
theorem pathsK_cons (k : E × St) (a : List (E × St)) : (St.pathsK (k :: a)).length = k.2.paths.length + (St.pathsK a).length := by
 obtain ⟨e, s⟩ := k
 rw [St.pathsK, List.length_append, List.length_map]
end Go.Proofs.YtbicoknghdgahaaGreat
