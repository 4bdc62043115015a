/-
  An interface value of the package: NewValueInterface, impl.toValue, and what stands behind them.
-/
import Derived.Test.YtekaainjpddklaaVu
import Derived.Test.YtekaainjpddklaaAppend
namespace Go.Proofs.Ytekaainjpddklaa
open Go.RowKit
attribute [local go_sem] run_store_float

theorem run_load_k {P : Program} {α : Type} (a : Addr) (k : Value → Sem α) (w : World) : (Sem.load .plain a k).run P w = ((load a .plain).run P w).andThen fun v w' => (k v).run P w' := by
  have : Sem.load .plain a k = (load a .plain).bind k := rfl
  rw [this, ← Sem.run_bind']

/-- an interface value that stands for the tree t -/
def ValAt (F : Nat → Prop) (w : World) (t : T) (v : Value) : Prop :=
  ∃ (g : Nat) (u : Value), v = .iface 182 (.pointer (some ⟨g, 0, none⟩)) ∧ F g ∧ Bk w g 217 #[u] ∧ AnyAt F w t u
theorem ValAt.keeps {F : Nat → Prop} {w w' : World} {t : T} {v : Value} (h : ValAt F w t v) (k : Keeps F w w') : ValAt F w' t v := by
  obtain ⟨g, u, rfl, hF, hB, hu⟩ := h
  exact ⟨g, u, rfl, hF, (k g hF).trans hB, hu.keeps k⟩
theorem ValAt.mono {F G : Nat → Prop} {w : World} {t : T} {v : Value} (h : ValAt F w t v) (k : ∀ b, F b → G b) : ValAt G w t v := by
  obtain ⟨g, u, rfl, hF, hB, hu⟩ := h
  exact ⟨g, u, rfl, k _ hF, hB, hu.mono k⟩

def GivesVal (t : T) (w : World) (e : Ending) (w' : World) : Prop := ∃ v, e = .returned v ∧ ValAt (Fr w.heap.size w') w' t v ∧ Below w.heap.size w w'

set_option maxRecDepth 100000 in
theorem newValue_calls {F : Nat → Prop} {W : World} {t : T} {u : Value} (h : AnyAt F W t u) (w : World) :
    Calls Try.prog 78 #[u] w fun e w' => e = .returned (.iface 182 (.pointer (some ⟨w.heap.size + 1, 0, none⟩))) ∧ (w.alloc (.cells #[] 180)).alloc (.cells #[u] 217) = w' := by
  cases h
  all_goals
    go_enter Try.func78, Try.ntmps78
    go_wp2
    go_ret
    exact ⟨rfl, rfl⟩

set_option maxRecDepth 100000 in
/-- impl.toValue of every value -/
theorem toValue_calls (rv : RV) (w : World) (cs : List Value) (hrv : RVAt (Old w) w rv cs) :
    Calls Try.prog 59 #[.agg cs.toArray] w (GivesVal rv.tree w) := by
  have Hrv := hide hrv
  cases hrv with
  | @mk kind n f s keys l KA LA kc lc xs h1 h2 h3 h4 h5 h6 h7 h8 h9 h10 h11 hKrow hLrow hx =>
  clear h1 h2 h3 h4 h5 h6 h7 h8 h9 h10 h11 hKrow hLrow hx
  have hpl := plain_calls (.mk kind n f s keys l)
  have Hpl := hide hpl
  clear hpl
  go_enter Try.func59, Try.ntmps59
  go_wp2_with fail
  refine (Hpl.out _ _ ((Hrv.out.keeps (Keeps.alloc _ _ fun x hx => hx)).mono (fun x hx => by simp only [Old, World.size_alloc] at hx ⊢; omega))).mono ?_
  rintro e w1 ⟨u, rfl, hu, hb1⟩
  go_wp2_with fail
  refine (newValue_calls hu w1).mono ?_
  rintro e w2 ⟨rfl, rfl⟩
  go_wp2
  go_ret
  have hbw : Below w.heap.size w w1 := ((Below.refl _ _).alloc (Nat.le_refl _) _).trans (hb1.mono (by simp))
  have hs := hbw.size
  refine ⟨_, rfl, ⟨w1.heap.size + 1, u, rfl, ⟨by omega, by simp⟩, ?_, ?_⟩, (hbw.alloc (by omega) _).alloc (by simp; omega) _⟩
  · have := Bk.new (w1.alloc (.cells #[] 180)) 217 #[u]
    simpa using this
  · refine (hu.keeps ?_).mono fun b hb => ⟨by have := hb.1; simp only [World.size_alloc] at this; omega, by have := hb.2; simp; omega⟩
    exact Keeps.trans (Keeps.alloc _ _ fun x hx => hx.2) (Keeps.alloc _ _ fun x hx => Nat.lt_of_lt_of_le hx.2 (by simp))

end Go.Proofs.Ytekaainjpddklaa
