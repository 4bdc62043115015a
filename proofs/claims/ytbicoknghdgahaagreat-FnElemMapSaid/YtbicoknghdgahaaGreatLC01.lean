/- Parts: Cells, Field, RowP, EMapP. -/
import Derived.Test.YtbicoknghdgahaaGreatKB17
import Derived.Test.YtbicoknghdgahaaGreatKL01
set_option linter.unusedVariables false
set_option linter.unusedSimpArgs false
namespace Go.Proofs.YtbicoknghdgahaaGreat
open Go.RowKit
attribute [local go_sem] run_store_float run_load_k

attribute [local go_sem] meth_Unstructured

theorem fromValue_nil (w : World) : Calls Tryz.prog 64 #[.nilIface] w (GivesRV (fun _ => False) T.null.toRV w) := by
 go_enter Tryz.func64, Tryz.ntmps64
 go_wp2
 exact tree_flat rfl _ _ 0 0 0 ⟨#[]⟩ rfl i0 i0 (by decide) (by decide) rfl

end Go.Proofs.YtbicoknghdgahaaGreat

namespace Go.Proofs.YtbicoknghdgahaaGreat
open Go.RowKit
attribute [local go_sem] run_store_float

theorem results_cell_two {P : Program} {fn : Func} {p q : Tmp} {ty : TypeId} (h : fn.results = #[.cell p ty, .tmp q]) (tmps : Array Value) (w : World) (g : Nat) (t : TypeId) (cs : Array Value) (fr : Nat × Nat) (d : TypeDesc) (b : Value)
  (hp : tmps.getD p undef = .pointer (some ⟨g, 0, none⟩)) (hb : tmps.getD q undef = b) (hg : w.heap[g]? = some (.cells cs t fr))
  (hu : P.underlying ty = some d) (hd : (match d with | .struct _ | .array _ _ => true | _ => false) = true) (hi : (P.info? ty).map (·.size) = some cs.size) :
  (results fn tmps).run P w = .ok (.tuple #[.agg cs, b]) w := by
 have hp' : tmps[p]?.getD undef = .pointer (some ⟨g, 0, none⟩) := by simpa using hp
 have hb' : tmps[q]?.getD undef = b := by simpa using hb
 simp [results, h, hp', hb', asAddr, run_loadVar_row w g t ty cs fr d hg hu hd hi]

end Go.Proofs.YtbicoknghdgahaaGreat

namespace Go.Proofs.YtbicoknghdgahaaGreat
open Go.RowKit Go.ChangeShapes Go.WideShapes

section
variable {H : Type} {enc : TypeId × Value → H} {w : World}

set_option maxRecDepth 100000 in
theorem open_Path {base : Nat} {v : Value} {d : DataW H} {ps : List MemPlace} (h : DataW.Trod enc Tryz.prog w 0 (fun _ => true) true 22 v d ps) (hw : Small 22 d) (hok : Value.okWide Tryz.prog w .any base 22 v) : ∃ A l c, v = .slice A l.length c ∧ PathAt (Old w) w l A c := by
 obtain ⟨fuel, hf⟩ := h
 obtain ⟨A, l, c, e, hs⟩ := open_path hf hw
 obtain ⟨a, n, m, rfl⟩ := okWide_slice Tryz.underlying22 hok
 simp only [Value.cells, List.cons.injEq, and_true] at e
 exact ⟨A, l, c, e, hs⟩

end
end Go.Proofs.YtbicoknghdgahaaGreat

namespace Go.Proofs.YtbicoknghdgahaaGreat

theorem VOk.nil_ : VOk [] := ⟨by simp, List.Pairwise.nil⟩
theorem mem_putV {e : E} {v : T} {ks : List (E × T)} {k : E × T} (h : k ∈ putV e v ks) : (k = (e, v)) ∨ (∃ k' ∈ ks, k = (k'.1, v)) ∨ k ∈ ks := by
 induction ks with
 | nil => simp [putV] at h; exact .inl h
 | cons a ks ih =>
  rw [putV] at h
  split at h
  ·rcases List.mem_cons.1 h with h | h
   ·exact .inr (.inr (by simp [h]))
   ·rcases ih h with h | ⟨k', h1, h2⟩ | h
    ·exact .inl h
    ·exact .inr (.inl ⟨k', by simp [h1], h2⟩)
    ·exact .inr (.inr (by simp [h]))
  ·split at h
   ·rcases List.mem_cons.1 h with h | h
    ·exact .inr (.inl ⟨a, by simp, h⟩)
    ·exact .inr (.inr (by simp [h]))
   ·rcases List.mem_cons.1 h with h | h
    ·exact .inl h
    ·exact .inr (.inr h)
theorem putV_ok {e : E} {v : T} {ks : List (E × T)} (he : e.Ok) (h : VOk ks) : VOk (putV e v ks) := by
 refine ⟨fun k hk => ?_, ?_⟩
 ·rcases mem_putV hk with rfl | ⟨k', h1, rfl⟩ | hk
  ·exact he
  ·exact h.1 k' h1
  ·exact h.1 k hk
 ·induction ks with
  | nil => simp [putV, SortC]
  | cons a ks ih =>
   obtain ⟨h1, h2⟩ := List.pairwise_cons.1 h.2
   have ha := h.1 a (by simp)
   rw [putV]
   split
   ·rename_i hl
    refine List.pairwise_cons.2 ⟨fun x hx => ?_, ih h.tail⟩
    rcases mem_putV hx with rfl | ⟨k', h3, rfl⟩ | hx
    ·exact hl
    ·exact h1 k' h3
    ·exact h1 x hx
   ·rename_i hl
    split
    ·exact List.pairwise_cons.2 ⟨fun x hx => h1 x hx, h2⟩
    ·rename_i h3
     have hlt : E.cmp e a.1 < 0 := E.ord_.gt ha he hl h3
     refine List.pairwise_cons.2 ⟨fun x hx => ?_, h.2⟩
     rcases List.mem_cons.1 hx with rfl | hx
     ·exact hlt
     ·exact E.ord_.lt_trans he ha (h.1 x (by simp [hx])) hlt (h1 x hx)
theorem findV_putV {e x : E} {v : T} {ks : List (E × T)} (he : e.Ok) (hx : x.Ok) (h : VOk ks) : findV x (putV e v ks) = if E.cmp e x = 0 then some v else findV x ks := by
 induction ks with
 | nil => simp [putV, findV]
 | cons a ks ih =>
  have ha := h.1 a (by simp)
  have ih := ih h.tail
  rw [putV]
  by_cases hl : E.cmp a.1 e < 0
  ·rw [if_pos hl, findV, ih, findV]
   by_cases hex : E.cmp e x = 0
   ·have : E.cmp a.1 x < 0 := E.ord_.lt_le ha he hx hl (by omega)
    simp only [if_pos hex, if_neg (show ¬ E.cmp a.1 x = 0 by omega)]
   ·simp only [if_neg hex]
  ·rw [if_neg hl]
   by_cases h0 : E.cmp a.1 e = 0
   ·rw [if_pos h0, findV, findV]
    by_cases hex : E.cmp e x = 0
    ·rw [if_pos (show E.cmp a.1 x = 0 from E.ord_.eq_trans ha he hx h0 hex), if_pos hex]
    ·have : ¬ E.cmp a.1 x = 0 := fun h => hex (E.ord_.eq_trans he ha hx (E.ord_.eq_turn ha he h0) h)
     simp only [if_neg hex, if_neg this]
   ·rw [if_neg h0, findV]
theorem putV_length {e : E} {v : T} {ks : List (E × T)} : (putV e v ks).length ≤ ks.length + 1 := by
 induction ks with
 | nil => simp [putV]
 | cons k ks ih =>
  rw [putV]
  split
  ·simp only [List.length_cons]; omega
  ·split <;> simp
def mapV (l : List (E × T)) : List (E × T) := l.foldl (fun s p => putV p.1 p.2 s) []
theorem mapV_snoc (l : List (E × T)) (p : E × T) : mapV (l ++ [p]) = putV p.1 p.2 (mapV l) := by simp [mapV]
def lookV (e : E) (l : List (E × T)) : Option T := l.foldl (fun a p => if E.cmp p.1 e = 0 then some p.2 else a) none
theorem lookV_snoc (e : E) (l : List (E × T)) (p : E × T) : lookV e (l ++ [p]) = if E.cmp p.1 e = 0 then some p.2 else lookV e l := by simp [lookV]
theorem snoc_ind {α : Type} {P : List α → Prop} (h0 : P []) (h1 : ∀ l a, P l → P (l ++ [a])) : ∀ l, P l := by
 have : ∀ n (l : List α), l.length = n → P l := by
  intro n
  induction n with
  | zero => intro l hl; rw [List.eq_nil_of_length_eq_zero hl]; exact h0
  | succ n ih =>
   intro l hl
   have hne : l ≠ [] := by intro e; rw [e] at hl; simp at hl
   rw [← List.dropLast_concat_getLast hne]
   exact h1 _ _ (ih _ (by rw [List.length_dropLast]; omega))
 exact fun l => this _ l rfl
theorem mapV_ok (l : List (E × T)) : (∀ p ∈ l, p.1.Ok) → VOk (mapV l) ∧ (mapV l).length ≤ l.length := by
 refine snoc_ind (P := fun l => (∀ p ∈ l, p.1.Ok) → VOk (mapV l) ∧ (mapV l).length ≤ l.length) (fun _ => ⟨VOk.nil_, by simp [mapV]⟩) (fun l a ih h => ?_) l
 obtain ⟨h1, h2⟩ := ih fun p hp => h p (by simp [hp])
 rw [mapV_snoc]
 have := putV_length (e := a.1) (v := a.2) (ks := mapV l)
 exact ⟨putV_ok (h a (by simp)) h1, by rw [List.length_append, List.length_singleton]; omega⟩
theorem findV_mapV {x : E} (hx : x.Ok) (l : List (E × T)) : (∀ p ∈ l, p.1.Ok) → findV x (mapV l) = lookV x l := by
 refine snoc_ind (P := fun l => (∀ p ∈ l, p.1.Ok) → findV x (mapV l) = lookV x l) (fun _ => rfl) (fun l a ih h => ?_) l
 have h' : ∀ p ∈ l, p.1.Ok := fun p hp => h p (by simp [hp])
 rw [mapV_snoc, lookV_snoc, findV_putV (h a (by simp)) hx (mapV_ok l h').1, ih h']
theorem lookV_at {e : E} {l : List (E × T)} {i : Nat} {p : E × T} (hi : l[i]? = some p) (h0 : E.cmp p.1 e = 0) (hn : ∀ (j : Nat) q, i < j → l[j]? = some q → E.cmp q.1 e ≠ 0) : lookV e l = some p.2 := by
 have key : ∀ (m : List (E × T)) (a : Option T), (∀ q ∈ m, E.cmp q.1 e ≠ 0) → m.foldl (fun a p => if E.cmp p.1 e = 0 then some p.2 else a) a = a := by
  intro m
  induction m with
  | nil => exact fun a _ => rfl
  | cons x m ih => intro a h; rw [List.foldl_cons, if_neg (h x (by simp)), ih a fun q hq => h q (by simp [hq])]
 have hl := (List.getElem?_eq_some_iff.1 hi).1
 have hs : l = l.take i ++ p :: l.drop (i + 1) := by
  have := List.getElem?_eq_some_iff.1 hi
  obtain ⟨h1, h2⟩ := this
  rw [← h2, ← List.drop_eq_getElem_cons h1, List.take_append_drop]
 unfold lookV
 rw [hs, List.foldl_append, List.foldl_cons, if_pos h0]
 refine key _ _ fun q hq => ?_
 obtain ⟨j, hj⟩ := List.getElem?_of_mem hq
 rw [List.getElem?_drop] at hj
 exact hn _ q (by omega) hj
theorem lookV_none {e : E} {l : List (E × T)} (hn : ∀ (j : Nat) q, l[j]? = some q → E.cmp q.1 e ≠ 0) : lookV e l = none := by
 have key : ∀ (m : List (E × T)) (a : Option T), (∀ q ∈ m, E.cmp q.1 e ≠ 0) → m.foldl (fun a p => if E.cmp p.1 e = 0 then some p.2 else a) a = a := by
  intro m
  induction m with
  | nil => exact fun a _ => rfl
  | cons x m ih => intro a h; rw [List.foldl_cons, if_neg (h x (by simp)), ih a fun q hq => h q (by simp [hq])]
 exact key l none fun q hq => by
  obtain ⟨j, hj⟩ := List.getElem?_of_mem hq
  exact hn j q hj
end Go.Proofs.YtbicoknghdgahaaGreat
