/-
  impl.toMapping, impl.toList; a value's fields as a map of the package.
-/
import Derived.Test.YtekaainjpddklaaMapsV
set_option linter.unusedVariables false
set_option linter.unusedSimpArgs false
namespace Go.Proofs.Ytekaainjpddklaa
open Go.RowKit
attribute [local go_sem] run_store_float run_load_k meth_AsList meth_AsMap

/-- the fields of a value, whatever its kind is -/
def RV.flds : RV → List (ByteArray × T)
  | .mk _ _ _ _ keys l => mapOf keys (l.map RV.tree)
theorem RV.fieldsOf_eq (r : RV) : r.fieldsOf = .map r.flds := by cases r; rfl

/-- an interface value that is the package's map of these fields -/
def MapV (F : Nat → Prop) (w : World) (l : List (ByteArray × T)) (v : Value) : Prop := ∃ r val, v = .iface 281 (.map (some r)) ∧ MapAt F w r l val
theorem MapV.old {F : Nat → Prop} {W : World} {l : List (ByteArray × T)} {v : Value} (h : MapV F W l v) (hF : ∀ b, F b → b < W.heap.size) : MapV (Old W) W l v := by
  obtain ⟨r, val, rfl, h⟩ := h
  exact ⟨r, val, rfl, h.mono hF⟩
theorem MapV.at_ {w W : World} {l : List (ByteArray × T)} {v : Value} (h : MapV (Old w) w l v) (hb : Below w.heap.size w W) : MapV (Old W) W l v := by
  obtain ⟨r, val, rfl, h⟩ := h
  exact ⟨r, val, rfl, (h.below (fun _ h => h) hb).mono fun _ h => Nat.lt_of_lt_of_le h hb.size⟩
theorem mapCompareP {l1 l2 : List (ByteArray × T)} {v1 v2 : Value} {w : World} (h1 : MapV (Old w) w l1 v1) (h2 : MapV (Old w) w l2 v2) : Calls Try.prog 86 #[v1, v2] w (CmpPost (T.cmpM l1 l2) w) := by
  obtain ⟨r1, val1, rfl, h1⟩ := h1
  obtain ⟨r2, val2, rfl, h2⟩ := h2
  exact mapCompareV_calls h1 h2
theorem mapEqualsP {l1 l2 : List (ByteArray × T)} {v1 v2 : Value} {w : World} (h1 : MapV (Old w) w l1 v1) (h2 : MapV (Old w) w l2 v2) : Calls Try.prog 87 #[v1, v2] w (EqPost (T.eqvM l1 l2) w) := by
  obtain ⟨r1, val1, rfl, h1⟩ := h1
  obtain ⟨r2, val2, rfl, h2⟩ := h2
  exact mapEqualsV_calls h1 h2

theorem AsMap_calls (r : Nat) (w : World) : Calls Try.prog 170 #[.agg #[.iface 126 (.map (some r))]] w fun e w' => e = .returned (.iface 281 (.map (some r))) ∧ Below w.heap.size w w' := by
  go_enter Try.func170, Try.ntmps170
  go_wp2_with fail
  refine (AsMapUsing_calls _ _ _).mono ?_
  rintro e w1 ⟨rfl, rfl⟩
  go_wp2
  go_ret
  exact ⟨rfl, (((Below.refl _ _).alloc (Nat.le_refl _) _).alloc (by simp) _).alloc (by simp; omega) _⟩
theorem AsList_calls (A : Option Addr) (n c : Nat) (w : World) : Calls Try.prog 168 #[.agg #[.iface 184 (.slice A n c)]] w fun e w' => e = .returned (.iface 280 (.slice A n c)) ∧ Below w.heap.size w w' := by
  go_enter Try.func168, Try.ntmps168
  go_wp2_with fail
  refine (AsListUsing_calls _ _ _ _ _).mono ?_
  rintro e w1 ⟨rfl, rfl⟩
  go_wp2
  go_ret
  exact ⟨rfl, (((Below.refl _ _).alloc (Nat.le_refl _) _).alloc (by simp) _).alloc (by simp; omega) _⟩

set_option maxRecDepth 100000 in
theorem toMapping_calls (rv : RV) (w : World) (cs : List Value) (hrv : RVAt (Old w) w rv cs) :
    Calls Try.prog 74 #[.agg cs.toArray] w fun e w' => ∃ v, e = .returned v ∧ MapV (Fr w.heap.size w') w' rv.flds v ∧ Below w.heap.size w w' := by
  have hb0 : ∀ o : Obj, Below w.heap.size w (w.alloc o) := fun o => (Below.refl _ _).alloc (Nat.le_refl _) _
  have Hpl := fun o => hide (plainMap_calls rv (w.alloc o) cs (hrv.at_ (hb0 o)))
  rw [RV.fieldsOf_eq] at Hpl
  generalize rv.flds = l at Hpl
  obtain ⟨c0, c1, c2, c3, c4, c5, rfl⟩ := hrv.six
  clear hrv
  go_enter Try.func74, Try.ntmps74
  go_wp2_with fail
  refine (Hpl _).out.mono ?_
  rintro e w1 ⟨r, rfl, hu, hb1⟩
  have Hu := hide hu
  have hbw := (hb0 (.cells #[c0, c1, c2, c3, c4, c5] 26)).trans (hb1.mono (by simp))
  have Hbw := hide hbw
  clear hu hb1 hbw Hpl hb0
  go_wp2_with fail
  refine (newValue_calls Hu.out w1).mono ?_
  rintro e w2 ⟨rfl, hw2⟩
  have hq : w2.cell? ⟨w1.heap.size + 1, 0, none⟩ = some (.iface 126 (.map (some r))) := by
    rw [← hw2]
    have := (Bk.new (w1.alloc (.cells #[] 180)) 217 #[.iface 126 (.map (some r))]).cell 0
    simp only [World.size_alloc] at this
    exact this
  have hb2 : Below w1.heap.size w1 w2 := by rw [← hw2]; exact below_two _ _ _
  have Hb2 := hide hb2
  clear hw2 hb2
  go_wp2_with fail
  refine (AsMap_calls r w2).mono ?_
  rintro e w3 ⟨rfl, hb3⟩
  have hb13 := Hb2.out.trans (hb3.mono Hb2.out.size)
  obtain ⟨r', val, he, hm⟩ := MapAt.of_any Hu.out
  have her : r' = r := by injection he with _ he; injection he with he; injection he with he; exact he.symm
  subst her
  have Hfin := hide (And.intro (show MapV (Fr w.heap.size w3) w3 l (.iface 281 (.map (some r'))) from ⟨r', val, rfl, (hm.keeps (Keeps.below hb13 fun b hb => hb.2)).mono fun b hb => ⟨by have := hb.1; simp only [World.size_alloc] at this; omega, Nat.lt_of_lt_of_le hb.2 hb13.size⟩⟩) (Hbw.out.trans (hb13.mono Hbw.out.size)))
  clear hb3 hb13 hm he hq
  go_wp2
  go_ret
  exact ⟨_, rfl, Hfin.out⟩

end Go.Proofs.Ytekaainjpddklaa
