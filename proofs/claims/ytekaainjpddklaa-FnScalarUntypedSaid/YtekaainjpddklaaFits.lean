/-
  impl.ScalarFits at the four kinds of scalars, of every value.
-/
import Derived.Test.YtekaainjpddklaaScalarNum
import Derived.Test.YtekaainjpddklaaScalarStr
import Derived.Test.YtekaainjpddklaaScalarBoo
import Derived.Test.YtekaainjpddklaaScalarUnt
namespace Go.Proofs.Ytekaainjpddklaa
open Go.RowKit
attribute [local go_sem] run_store_float

set_option maxRecDepth 100000 in
theorem doorNum {F : Nat → Prop} {t : T} {v : Value} {w : World} (hv : ValAt F w t v) (hF : ∀ b, F b → b < w.heap.size) :
    Calls Try.prog 58 #[.string ⟨#[110, 117, 109, 101, 114, 105, 99]⟩, v] w fun e w' => e = .returned (.bool t.fitsNum) ∧ Below w.heap.size w w' := by
  have hv' : ValAt (fun b => b < w.heap.size) (w.alloc (.cells #[.string ⟨#[110, 117, 109, 101, 114, 105, 99]⟩] 83)) t v := (hv.keeps (Keeps.alloc _ _ hF)).mono hF
  have hg := Bk.new w 83 #[.string ⟨#[110, 117, 109, 101, 114, 105, 99]⟩]
  have Hc := hide (validateNum hv' (fun b hb => Nat.lt_of_lt_of_le hb (by simp)) w.heap.size hg)
  obtain ⟨p, u, rfl, hp, hB, hu⟩ := hv
  clear hv' hg hp hB hu
  go_enter Try.func58, Try.ntmps58
  go_wp2_with fail
  refine Hc.out.mono ?_
  rintro e w1 ⟨A, c, rfl, hb⟩
  have Hb := hide hb
  clear hb
  cases hfit : t.fitsNum
  all_goals
    simp only [Bool.false_eq_true, if_true, if_false]
    go_wp2
    go_ret
    exact ⟨by rw [hfit]; rfl, ((Below.refl _ _).alloc (Nat.le_refl _) _).trans (Hb.out.mono (by simp))⟩

set_option maxRecDepth 100000 in
theorem scalarFitsNum (rv : RV) (w : World) (cs : List Value) (hrv : RVAt (Old w) w rv cs) :
    Calls Try.prog 16 #[.string ⟨#[110, 117, 109, 101, 114, 105, 99]⟩, .agg cs.toArray] w fun e w' => e = .returned (.bool rv.tree.fitsNum) ∧ Below w.heap.size w w' := by
  have Hrv := hide hrv
  cases hrv with
  | @mk kind n f s keys l KA LA kc lc xs h1 h2 h3 h4 h5 h6 h7 h8 h9 h10 h11 hKrow hLrow hx =>
  clear h1 h2 h3 h4 h5 h6 h7 h8 h9 h10 h11 hKrow hLrow hx
  have Hpl := hide (toValue_calls (.mk kind n f s keys l))
  generalize RV.mk kind n f s keys l = rv at Hrv Hpl
  go_enter Try.func16, Try.ntmps16
  go_wp2_with fail
  refine (Hpl.out _ _ ((Hrv.out.keeps (Keeps.alloc _ _ fun x hx => hx)).mono (fun x hx => by simp only [Old, World.size_alloc] at hx ⊢; omega))).mono ?_
  rintro e w1 ⟨v, rfl, hv, hb1⟩
  have hbw : Below w.heap.size w w1 := ((Below.refl _ _).alloc (Nat.le_refl _) _).trans (hb1.mono (by simp))
  obtain ⟨p, u, rfl, hp, hB, hu⟩ := hv
  have Hd := hide (doorNum (F := Fr (w.alloc (.cells #[.int .i64 kind, .int .i64 n, .float .f64 f, .string s, .slice KA keys.length kc, .slice LA l.length lc] 26)).heap.size w1) (t := rv.tree) (w := w1) ⟨p, u, rfl, hp, hB, hu⟩ fun b hb => hb.2)
  have Hbw := hide hbw
  clear hp hB hu hb1 hbw
  go_wp2_with fail
  refine Hd.out.mono ?_
  rintro e w2 ⟨rfl, hb2⟩
  have Hb2 := hide hb2
  clear hb2
  go_wp2
  go_ret
  exact ⟨rfl, Hbw.out.trans (Hb2.out.mono Hbw.out.size)⟩

set_option maxRecDepth 100000 in
theorem doorStr {F : Nat → Prop} {t : T} {v : Value} {w : World} (hv : ValAt F w t v) (hF : ∀ b, F b → b < w.heap.size) :
    Calls Try.prog 58 #[.string ⟨#[115, 116, 114, 105, 110, 103]⟩, v] w fun e w' => e = .returned (.bool t.fitsStr) ∧ Below w.heap.size w w' := by
  have hv' : ValAt (fun b => b < w.heap.size) (w.alloc (.cells #[.string ⟨#[115, 116, 114, 105, 110, 103]⟩] 83)) t v := (hv.keeps (Keeps.alloc _ _ hF)).mono hF
  have hg := Bk.new w 83 #[.string ⟨#[115, 116, 114, 105, 110, 103]⟩]
  have Hc := hide (validateStr hv' (fun b hb => Nat.lt_of_lt_of_le hb (by simp)) w.heap.size hg)
  obtain ⟨p, u, rfl, hp, hB, hu⟩ := hv
  clear hv' hg hp hB hu
  go_enter Try.func58, Try.ntmps58
  go_wp2_with fail
  refine Hc.out.mono ?_
  rintro e w1 ⟨A, c, rfl, hb⟩
  have Hb := hide hb
  clear hb
  cases hfit : t.fitsStr
  all_goals
    simp only [Bool.false_eq_true, if_true, if_false]
    go_wp2
    go_ret
    exact ⟨by rw [hfit]; rfl, ((Below.refl _ _).alloc (Nat.le_refl _) _).trans (Hb.out.mono (by simp))⟩

set_option maxRecDepth 100000 in
theorem scalarFitsStr (rv : RV) (w : World) (cs : List Value) (hrv : RVAt (Old w) w rv cs) :
    Calls Try.prog 16 #[.string ⟨#[115, 116, 114, 105, 110, 103]⟩, .agg cs.toArray] w fun e w' => e = .returned (.bool rv.tree.fitsStr) ∧ Below w.heap.size w w' := by
  have Hrv := hide hrv
  cases hrv with
  | @mk kind n f s keys l KA LA kc lc xs h1 h2 h3 h4 h5 h6 h7 h8 h9 h10 h11 hKrow hLrow hx =>
  clear h1 h2 h3 h4 h5 h6 h7 h8 h9 h10 h11 hKrow hLrow hx
  have Hpl := hide (toValue_calls (.mk kind n f s keys l))
  generalize RV.mk kind n f s keys l = rv at Hrv Hpl
  go_enter Try.func16, Try.ntmps16
  go_wp2_with fail
  refine (Hpl.out _ _ ((Hrv.out.keeps (Keeps.alloc _ _ fun x hx => hx)).mono (fun x hx => by simp only [Old, World.size_alloc] at hx ⊢; omega))).mono ?_
  rintro e w1 ⟨v, rfl, hv, hb1⟩
  have hbw : Below w.heap.size w w1 := ((Below.refl _ _).alloc (Nat.le_refl _) _).trans (hb1.mono (by simp))
  obtain ⟨p, u, rfl, hp, hB, hu⟩ := hv
  have Hd := hide (doorStr (F := Fr (w.alloc (.cells #[.int .i64 kind, .int .i64 n, .float .f64 f, .string s, .slice KA keys.length kc, .slice LA l.length lc] 26)).heap.size w1) (t := rv.tree) (w := w1) ⟨p, u, rfl, hp, hB, hu⟩ fun b hb => hb.2)
  have Hbw := hide hbw
  clear hp hB hu hb1 hbw
  go_wp2_with fail
  refine Hd.out.mono ?_
  rintro e w2 ⟨rfl, hb2⟩
  have Hb2 := hide hb2
  clear hb2
  go_wp2
  go_ret
  exact ⟨rfl, Hbw.out.trans (Hb2.out.mono Hbw.out.size)⟩

set_option maxRecDepth 100000 in
theorem doorBoo {F : Nat → Prop} {t : T} {v : Value} {w : World} (hv : ValAt F w t v) (hF : ∀ b, F b → b < w.heap.size) :
    Calls Try.prog 58 #[.string ⟨#[98, 111, 111, 108, 101, 97, 110]⟩, v] w fun e w' => e = .returned (.bool t.fitsBoo) ∧ Below w.heap.size w w' := by
  have hv' : ValAt (fun b => b < w.heap.size) (w.alloc (.cells #[.string ⟨#[98, 111, 111, 108, 101, 97, 110]⟩] 83)) t v := (hv.keeps (Keeps.alloc _ _ hF)).mono hF
  have hg := Bk.new w 83 #[.string ⟨#[98, 111, 111, 108, 101, 97, 110]⟩]
  have Hc := hide (validateBoo hv' (fun b hb => Nat.lt_of_lt_of_le hb (by simp)) w.heap.size hg)
  obtain ⟨p, u, rfl, hp, hB, hu⟩ := hv
  clear hv' hg hp hB hu
  go_enter Try.func58, Try.ntmps58
  go_wp2_with fail
  refine Hc.out.mono ?_
  rintro e w1 ⟨A, c, rfl, hb⟩
  have Hb := hide hb
  clear hb
  cases hfit : t.fitsBoo
  all_goals
    simp only [Bool.false_eq_true, if_true, if_false]
    go_wp2
    go_ret
    exact ⟨by rw [hfit]; rfl, ((Below.refl _ _).alloc (Nat.le_refl _) _).trans (Hb.out.mono (by simp))⟩

set_option maxRecDepth 100000 in
theorem scalarFitsBoo (rv : RV) (w : World) (cs : List Value) (hrv : RVAt (Old w) w rv cs) :
    Calls Try.prog 16 #[.string ⟨#[98, 111, 111, 108, 101, 97, 110]⟩, .agg cs.toArray] w fun e w' => e = .returned (.bool rv.tree.fitsBoo) ∧ Below w.heap.size w w' := by
  have Hrv := hide hrv
  cases hrv with
  | @mk kind n f s keys l KA LA kc lc xs h1 h2 h3 h4 h5 h6 h7 h8 h9 h10 h11 hKrow hLrow hx =>
  clear h1 h2 h3 h4 h5 h6 h7 h8 h9 h10 h11 hKrow hLrow hx
  have Hpl := hide (toValue_calls (.mk kind n f s keys l))
  generalize RV.mk kind n f s keys l = rv at Hrv Hpl
  go_enter Try.func16, Try.ntmps16
  go_wp2_with fail
  refine (Hpl.out _ _ ((Hrv.out.keeps (Keeps.alloc _ _ fun x hx => hx)).mono (fun x hx => by simp only [Old, World.size_alloc] at hx ⊢; omega))).mono ?_
  rintro e w1 ⟨v, rfl, hv, hb1⟩
  have hbw : Below w.heap.size w w1 := ((Below.refl _ _).alloc (Nat.le_refl _) _).trans (hb1.mono (by simp))
  obtain ⟨p, u, rfl, hp, hB, hu⟩ := hv
  have Hd := hide (doorBoo (F := Fr (w.alloc (.cells #[.int .i64 kind, .int .i64 n, .float .f64 f, .string s, .slice KA keys.length kc, .slice LA l.length lc] 26)).heap.size w1) (t := rv.tree) (w := w1) ⟨p, u, rfl, hp, hB, hu⟩ fun b hb => hb.2)
  have Hbw := hide hbw
  clear hp hB hu hb1 hbw
  go_wp2_with fail
  refine Hd.out.mono ?_
  rintro e w2 ⟨rfl, hb2⟩
  have Hb2 := hide hb2
  clear hb2
  go_wp2
  go_ret
  exact ⟨rfl, Hbw.out.trans (Hb2.out.mono Hbw.out.size)⟩

set_option maxRecDepth 100000 in
theorem doorUnt {F : Nat → Prop} {t : T} {v : Value} {w : World} (hv : ValAt F w t v) (hF : ∀ b, F b → b < w.heap.size) :
    Calls Try.prog 58 #[.string ⟨#[117, 110, 116, 121, 112, 101, 100]⟩, v] w fun e w' => e = .returned (.bool t.fitsUnt) ∧ Below w.heap.size w w' := by
  have hv' : ValAt (fun b => b < w.heap.size) (w.alloc (.cells #[.string ⟨#[117, 110, 116, 121, 112, 101, 100]⟩] 83)) t v := (hv.keeps (Keeps.alloc _ _ hF)).mono hF
  have hg := Bk.new w 83 #[.string ⟨#[117, 110, 116, 121, 112, 101, 100]⟩]
  have Hc := hide (validateUnt hv' (fun b hb => Nat.lt_of_lt_of_le hb (by simp)) w.heap.size hg)
  obtain ⟨p, u, rfl, hp, hB, hu⟩ := hv
  clear hv' hg hp hB hu
  go_enter Try.func58, Try.ntmps58
  go_wp2_with fail
  refine Hc.out.mono ?_
  rintro e w1 ⟨A, c, rfl, hb⟩
  have Hb := hide hb
  clear hb
  cases hfit : t.fitsUnt
  all_goals
    simp only [Bool.false_eq_true, if_true, if_false]
    go_wp2
    go_ret
    exact ⟨by rw [hfit]; rfl, ((Below.refl _ _).alloc (Nat.le_refl _) _).trans (Hb.out.mono (by simp))⟩

set_option maxRecDepth 100000 in
theorem scalarFitsUnt (rv : RV) (w : World) (cs : List Value) (hrv : RVAt (Old w) w rv cs) :
    Calls Try.prog 16 #[.string ⟨#[117, 110, 116, 121, 112, 101, 100]⟩, .agg cs.toArray] w fun e w' => e = .returned (.bool rv.tree.fitsUnt) ∧ Below w.heap.size w w' := by
  have Hrv := hide hrv
  cases hrv with
  | @mk kind n f s keys l KA LA kc lc xs h1 h2 h3 h4 h5 h6 h7 h8 h9 h10 h11 hKrow hLrow hx =>
  clear h1 h2 h3 h4 h5 h6 h7 h8 h9 h10 h11 hKrow hLrow hx
  have Hpl := hide (toValue_calls (.mk kind n f s keys l))
  generalize RV.mk kind n f s keys l = rv at Hrv Hpl
  go_enter Try.func16, Try.ntmps16
  go_wp2_with fail
  refine (Hpl.out _ _ ((Hrv.out.keeps (Keeps.alloc _ _ fun x hx => hx)).mono (fun x hx => by simp only [Old, World.size_alloc] at hx ⊢; omega))).mono ?_
  rintro e w1 ⟨v, rfl, hv, hb1⟩
  have hbw : Below w.heap.size w w1 := ((Below.refl _ _).alloc (Nat.le_refl _) _).trans (hb1.mono (by simp))
  obtain ⟨p, u, rfl, hp, hB, hu⟩ := hv
  have Hd := hide (doorUnt (F := Fr (w.alloc (.cells #[.int .i64 kind, .int .i64 n, .float .f64 f, .string s, .slice KA keys.length kc, .slice LA l.length lc] 26)).heap.size w1) (t := rv.tree) (w := w1) ⟨p, u, rfl, hp, hB, hu⟩ fun b hb => hb.2)
  have Hbw := hide hbw
  clear hp hB hu hb1 hbw
  go_wp2_with fail
  refine Hd.out.mono ?_
  rintro e w2 ⟨rfl, hb2⟩
  have Hb2 := hide hb2
  clear hb2
  go_wp2
  go_ret
  exact ⟨rfl, Hbw.out.trans (Hb2.out.mono Hbw.out.size)⟩

end Go.Proofs.Ytekaainjpddklaa
