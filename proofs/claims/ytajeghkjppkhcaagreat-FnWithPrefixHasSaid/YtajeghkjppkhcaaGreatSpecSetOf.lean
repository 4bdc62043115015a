/-
  spec.SetOf. Printed by genspecsetof.py.
-/
import Derived.Test.YtajeghkjppkhcaaGreatSpecPW
import Derived.Test.YtajeghkjppkhcaaGreatESetL
import Derived.Test.YtajeghkjppkhcaaGreatCopyIns
import Derived.Test.YtajeghkjppkhcaaGreatSetA
set_option linter.unusedVariables false
set_option linter.unusedSimpArgs false
namespace Go.Proofs.YtajeghkjppkhcaaGreat
open Go.RowKit
attribute [local go_sem] run_store_float

theorem paths_info : (Tryz.prog.info? 22).map (fun i => (i.zero, i.size, i.bytes)) = some (some (.slice none 0 0), 1, 24) := by kernel_rfl
/-- paths that structs stand for -/
def PWS (p : List E) : Prop := ∀ e ∈ p, EWS e
theorem PWS.back {p : List E} (h : PWS p) : pel (p.map E.toREl) = p := map_back h
theorem pel_pws (l : List REl) : PWS (pel l) := fun _ h => pel_ews h
theorem pelsP_back {ps : List (List E)} (h : ∀ p ∈ ps, PWS p) : pelsP (ps.map (List.map E.toREl)) = ps := by
  unfold pelsP
  rw [List.map_map]
  conv => rhs; rw [← List.map_id ps]
  exact List.map_congr_left fun p hp => (h p hp).back
theorem pels_pws {ls : List (List REl)} {p : List E} (h : p ∈ pels ls) : PWS p := by
  obtain ⟨l, -, rfl⟩ := List.mem_map.1 h
  exact pel_pws l

/-- a path's slice, as a cell -/
def PQ (F : Nat → Prop) (w : World) (l : List REl) (cs : List Value) : Prop := ∃ A c, cs = [.slice A l.length c] ∧ PathAt F w l A c
theorem PQ.keeps {F : Nat → Prop} {w w' : World} {l : List REl} {cs : List Value} (h : PQ F w l cs) (k : Keeps F w w') : PQ F w' l cs := by
  obtain ⟨A, c, e, h⟩ := h
  exact ⟨A, c, e, h.keeps k⟩
theorem PQ.mono {F G : Nat → Prop} {w : World} {l : List REl} {cs : List Value} (h : PQ F w l cs) (k : ∀ b, F b → G b) : PQ G w l cs := by
  obtain ⟨A, c, e, h⟩ := h
  exact ⟨A, c, e, h.mono k⟩
theorem pq_ones {F : Nat → Prop} {w : World} {l : List (List REl)} {xs : List Value} (h : Cells 1 (PQ F w) l xs) : ∀ u ∈ xs, u.oneCell' = true :=
  h.ones (by decide) fun a cs h => by
    obtain ⟨A, c, rfl, -⟩ := h
    simp [Value.oneCell']
/-- paths handed back as structs; their memory is new -/
def GivesPaths (rs : List (List REl)) (w : World) (en : Ending) (w' : World) : Prop := ∃ A c, en = .returned (.slice A rs.length c) ∧ PathsAt (Fr w.heap.size w') w' rs A c ∧ Below w.heap.size w w'

end Go.Proofs.YtajeghkjppkhcaaGreat
