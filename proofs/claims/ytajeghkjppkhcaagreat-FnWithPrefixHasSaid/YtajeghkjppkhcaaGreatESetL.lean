/-
  Several texts in one: ESetP, LaidP.
-/
import Derived.Test.YtajeghkjppkhcaaGreatElemOO
import Derived.Test.YtajeghkjppkhcaaGreatPathA
import Derived.Test.YtajeghkjppkhcaaGreatElemSetM
import Derived.Test.YtajeghkjppkhcaaGreatPathMC
set_option linter.unusedVariables false
set_option linter.unusedSimpArgs false
/-!
  Plain: a list of steps made a set from the end; steps as structs and back.
-/

namespace Go.Proofs.YtajeghkjppkhcaaGreat

section
variable {α : Type} {c : α → α → Int} {Ok : α → Prop} (O : TOrd c Ok)
include O
end

/-- a struct's step, made a struct, is the same step -/
theorem elem_toREl (r : REl) : r.elem.toREl.elem = r.elem := by
  by_cases h1 : r.kind = 1
  · have he : r.elem = .key (r.keys.zip (r.l.map RV.tree)) := by unfold REl.elem; rw [if_pos h1]
    have hws : ∀ k t, (k, t) ∈ r.keys.zip (r.l.map RV.tree) → t.WS := by
      intro k t h
      have h2 := (List.of_mem_zip h).2
      obtain ⟨x, -, rfl⟩ := List.mem_map.1 h2
      exact tree_ws x
    rw [he]
    generalize r.keys.zip (r.l.map RV.tree) = l at *
    have hsnd : (l.map fun p => p.2.toRV).map RV.tree = l.map Prod.snd := by
      have := tree_toRV_all (l := l.map Prod.snd) fun t ht => by
        obtain ⟨p, hp, rfl⟩ := List.mem_map.1 ht
        exact hws p.1 p.2 hp
      simpa using this
    have : (E.key l).toREl.elem = .key ((l.map Prod.fst).zip ((l.map fun p => p.2.toRV).map RV.tree)) := by
      unfold REl.elem
      exact if_pos rfl
    rw [this, hsnd, zip_fst_snd]
  · by_cases h2 : r.kind = 2
    · have he : r.elem = .val r.v.tree := by unfold REl.elem; rw [if_neg h1, if_pos h2]
      rw [he]
      have : (E.val r.v.tree).toREl.elem = .val r.v.tree.toRV.tree := rfl
      rw [this, toRV_tree (tree_ws r.v)]
    · by_cases h3 : r.kind = 3
      · have he : r.elem = .idx r.n := by unfold REl.elem; rw [if_neg h1, if_neg h2, if_pos h3]
        rw [he]
        rfl
      · have he : r.elem = .field r.s := by unfold REl.elem; rw [if_neg h1, if_neg h2, if_neg h3]
        rw [he]
        rfl

/-- steps that structs stand for -/
def EWS (e : E) : Prop := ∃ r : REl, e = r.elem
theorem EWS.back {e : E} (h : EWS e) : e.toREl.elem = e := by
  obtain ⟨r, rfl⟩ := h
  exact elem_toREl r
theorem map_back {l : List E} (h : ∀ e ∈ l, EWS e) : (l.map E.toREl).map REl.elem = l := by
  rw [List.map_map]
  conv => rhs; rw [← List.map_id l]
  exact List.map_congr_left fun e he => (h e he).back

end Go.Proofs.YtajeghkjppkhcaaGreat

/-!
  A value's cells laid into a row of structs; steps of structs.
-/

namespace Go.Proofs.YtajeghkjppkhcaaGreat
open Go.RowKit

theorem cells_laid {α : Type} {n : Nat} {P : α → List Value → Prop} {l : List α} {xs cs : List Value} {e : α} {i : Nat} (h : Cells n P l xs) (he : P e cs) (hl : cs.length = n) (hi : i ≤ l.length) : Cells n P (l.take i ++ e :: l.drop i) (laid n i cs xs) := by
  have h1 := h.take i hi
  have h2 := h.drop_ i
  have := (h1.append (Cells.one he hl)).append h2
  simpa [laid] using this
theorem pel_ews {l : List REl} {e : E} (h : e ∈ pel l) : EWS e := by
  obtain ⟨r, -, rfl⟩ := List.mem_map.1 h
  exact ⟨r, rfl⟩

end Go.Proofs.YtajeghkjppkhcaaGreat
