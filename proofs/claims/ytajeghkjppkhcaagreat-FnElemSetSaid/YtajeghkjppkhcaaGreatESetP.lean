/-
  Plain: a list of steps made a set from the end; steps as structs and back.
-/
import Derived.Test.YtajeghkjppkhcaaGreatElemOk
import Derived.Test.YtajeghkjppkhcaaGreatPathP
set_option linter.unusedVariables false
set_option linter.unusedSimpArgs false
namespace Go.Proofs.YtajeghkjppkhcaaGreat

section
variable {α : Type} {c : α → α → Int} {Ok : α → Prop} (O : TOrd c Ok)
include O
/-- what a search from the end finds: an equal one before the place -/
theorem insC_end_eq {e a : α} {l : List α} {n : Nat} (he : Ok e) (hl : ∀ x ∈ l, Ok x) (hs : SortC c l) (h : l[n]? = some a) (h0 : c a e = 0) : insC c e l = l := by
  rw [insC_eq, if_pos]
  rw [hasC_iff O he hl hs]
  exact ⟨a, List.mem_of_getElem? h, h0⟩
/-- what a search from the end finds: the place -/
theorem insC_end_new {e : α} {l : List α} {n : Nat} (he : Ok e) (hl : ∀ x ∈ l, Ok x) (hs : SortC c l) (hn : n ≤ l.length) (h1 : ∀ (i : Nat) a, n ≤ i → l[i]? = some a → 0 < c a e) (h2 : ∀ m a, n = m + 1 → l[m]? = some a → c a e < 0) : insC c e l = l.take n ++ e :: l.drop n := by
  have hlt : ∀ (i : Nat) a, i < n → l[i]? = some a → c a e < 0 := by
    intro i a hi ha
    obtain ⟨m, rfl⟩ : ∃ m, n = m + 1 := ⟨n - 1, by omega⟩
    obtain ⟨b, hb⟩ : ∃ b, l[m]? = some b := ⟨_, List.getElem?_eq_getElem (by omega)⟩
    have hbe := h2 m b rfl hb
    by_cases him : i = m
    · subst him; rw [hb] at ha; cases ha; exact hbe
    · obtain ⟨l1, e1⟩ := List.getElem?_eq_some_iff.1 ha
      obtain ⟨l2, e2⟩ := List.getElem?_eq_some_iff.1 hb
      have hab : c a b < 0 := by
        have := List.pairwise_iff_getElem.1 hs i m l1 l2 (by omega)
        rwa [e1, e2] at this
      exact O.lt_trans (hl a (List.mem_of_getElem? ha)) (hl b (List.mem_of_getElem? hb)) he hab hbe
  have hc := cntC_of (c := c) (e := e) hn hlt (fun a ha hh => by have := h1 n a (Nat.le_refl _) ha; omega)
  rw [insC_eq, if_neg, hc]
  unfold hasC
  rw [hc]
  cases hx : l[n]? with
  | none => simp
  | some a =>
    have := h1 n a (Nat.le_refl _) hx
    simp
    omega
end

/-- a struct's step, made a struct, is the same step -/
theorem elem_toREl (r : REl) : r.elem.toREl.elem = r.elem := by
  by_cases h1 : r.kind = 1
  · have he : r.elem = .key (r.keys.zip (r.l.map RV.tree)) := by unfold REl.elem; rw [if_pos h1]
    have hws : ∀ k t, (k, t) ∈ r.keys.zip (r.l.map RV.tree) → t.WS := by
      intro k t h
      have h2 := (List.of_mem_zip h).2
      obtain ⟨x, -, rfl⟩ := List.mem_map.1 h2
      exact tree_ws x
    rw [he]
    generalize r.keys.zip (r.l.map RV.tree) = l at *
    have hsnd : (l.map fun p => p.2.toRV).map RV.tree = l.map Prod.snd := by
      have := tree_toRV_all (l := l.map Prod.snd) fun t ht => by
        obtain ⟨p, hp, rfl⟩ := List.mem_map.1 ht
        exact hws p.1 p.2 hp
      simpa using this
    have : (E.key l).toREl.elem = .key ((l.map Prod.fst).zip ((l.map fun p => p.2.toRV).map RV.tree)) := by
      unfold REl.elem
      exact if_pos rfl
    rw [this, hsnd, zip_fst_snd]
  · by_cases h2 : r.kind = 2
    · have he : r.elem = .val r.v.tree := by unfold REl.elem; rw [if_neg h1, if_pos h2]
      rw [he]
      have : (E.val r.v.tree).toREl.elem = .val r.v.tree.toRV.tree := rfl
      rw [this, toRV_tree (tree_ws r.v)]
    · by_cases h3 : r.kind = 3
      · have he : r.elem = .idx r.n := by unfold REl.elem; rw [if_neg h1, if_neg h2, if_pos h3]
        rw [he]
        rfl
      · have he : r.elem = .field r.s := by unfold REl.elem; rw [if_neg h1, if_neg h2, if_neg h3]
        rw [he]
        rfl

/-- steps that structs stand for -/
def EWS (e : E) : Prop := ∃ r : REl, e = r.elem
theorem EWS.back {e : E} (h : EWS e) : e.toREl.elem = e := by
  obtain ⟨r, rfl⟩ := h
  exact elem_toREl r
theorem map_back {l : List E} (h : ∀ e ∈ l, EWS e) : (l.map E.toREl).map REl.elem = l := by
  rw [List.map_map]
  conv => rhs; rw [← List.map_id l]
  exact List.map_congr_left fun e he => (h e he).back

end Go.Proofs.YtajeghkjppkhcaaGreat
