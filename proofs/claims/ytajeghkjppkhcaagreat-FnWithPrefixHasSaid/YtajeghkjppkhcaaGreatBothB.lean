/-
  Several texts in one: Both, SpecBelow.
-/
import Derived.Test.YtajeghkjppkhcaaGreatWpA
import Derived.Test.YtajeghkjppkhcaaGreatAlgM
set_option linter.unusedVariables false
set_option linter.unusedSimpArgs false
/-!
  laws.both, spec.Union: rows of paths joined.
-/

namespace Go.Proofs.YtajeghkjppkhcaaGreat
open Go.RowKit
attribute [local go_sem] run_store_float

/-- a row appended; all that it holds is old -/
theorem old_step {α : Type} {k : Nat} {Q : (Nat → Prop) → World → α → List Value → Prop} (qk : ∀ {F : Nat → Prop} {w w' : World} {a : α} {cs : List Value}, Q F w a cs → Keeps F w w' → Q F w' a cs)
    {w V W3 : World} {ls add : List α} {us news : List Value} {row : Option Nat} (hc : Cells k (Q (Old w) V) ls us) (hb : Below w.heap.size w V) (hlo : ∀ b, row = some b → w.heap.size ≤ b) (hg : V.grownBy W3 row) (hadd : Cells k (Q (Old w) V) add news) :
    Cells k (Q (Old w) W3) (ls ++ add) (us ++ news) ∧ Below w.heap.size w W3 := by
  have hk : Keeps (Old w) V W3 := fun b hb' => hg.block b (Nat.lt_of_lt_of_le hb' hb.size) fun e => by have h1 := hlo b e.symm; have hb' : b < w.heap.size := hb'; omega
  exact ⟨Cells.append (hc.mono fun _ _ h => qk h hk) (hadd.mono fun _ _ h => qk h hk), hb.grown hg hb.size hlo⟩

/-- paths handed back that share the memory of what stood -/
def GivesP (rs : List (List REl)) (w : World) (en : Ending) (w' : World) : Prop := ∃ A c, en = .returned (.slice A rs.length c) ∧ PathsAt (Old w') w' rs A c ∧ Below w.heap.size w w'
set_option maxRecDepth 100000 in
set_option maxHeartbeats 4000000 in
theorem both_calls {l m : List (List REl)} {A B : Option Addr} {c d : Nat} {w : World} (h : PathsAt (Old w) w l A c) (h' : PathsAt (Old w) w m B d) (hn : (l.length + m.length) * 24 ≤ R47) :
    Calls Tryz.prog 38 #[.slice A l.length c, .slice B m.length d] w (GivesP (l ++ m) w) := by
  obtain ⟨h1, h2, h3, xs, h4, h5⟩ := h
  obtain ⟨k1, k2, k3, ys, k4, k5⟩ := h'
  have hn' : (l.length + m.length) * 24 ≤ 140737488351232 := hn
  obtain ⟨i9, hi9, hz9, hs9, hb9⟩ := info_parts paths_info
  have hb0 : Below w.heap.size w (w.alloc (.cells #[] 22)) := (Below.refl _ _).alloc (Nat.le_refl _) _
  have hown0 := World.ownsRow_lit (base := w.heap.size) (e := 22) (size := 1) w #[] 0 (by simp) (by simp [maxLen]) (by simp)
  have k0 : Keeps (Old w) w (w.alloc (.cells #[] 22)) := Keeps.below hb0 fun _ h => h
  have H0 := hide (And.intro hb0 (And.intro hown0 (And.intro (h4.keeps k0) (And.intro (h5.mono fun _ _ h => PQ.keeps h k0) (And.intro k4 k5)))))
  have Ho := hide (And.intro (pq_ones h5) (pq_ones k5))
  clear hb0 hown0 k0 h1 h2 h3 h4 h5 k1 k2 k3 k4 k5
  obtain ⟨n, hn0⟩ : ∃ n, l.length = n := ⟨_, rfl⟩
  obtain ⟨n', hn1⟩ : ∃ n, m.length = n := ⟨_, rfl⟩
  have Hn := hide (And.intro hn0 hn1)
  rw [hn0] at H0
  rw [hn1] at H0
  rw [hn0, hn1] at hn' ⊢
  clear hn0 hn1 hn
  go_enter Tryz.func38, Tryz.ntmps38
  go_wp2_with (at_builtin; go_loud (refine wpList_append_row _ rfl (.tmp 5) (.tmp 6) 39 rfl w.heap.size 22 i9 _ 1 24 Tryz.underlying39 hi9 hz9 hs9 hb9 rfl (by omega) (.slice (some ⟨w.heap.size, 0, none⟩) 0 0) 0 [] rfl H0.out.2.1 (Old w) A n c xs rfl H0.out.2.2.1 Ho.out.1 (by omega) (by omega) (by rw [World.size_alloc]; omega) ?_))
  intro v2 w2 hown2 hg2 hat2
  have hlo1 : ∀ b, (Value.slice (some ⟨w.heap.size, 0, none⟩) 0 0).ownBlock = some b → w.heap.size ≤ b := fun b hb => by
    have e1 : w.heap.size = b := Option.some.inj hb
    omega
  have hst := old_step (ls := ([] : List (List REl))) (us := []) (Q := PQ) (fun h k => h.keeps k) Cells.nil_ H0.out.1 hlo1 hg2 H0.out.2.2.2.1
  rw [List.nil_append] at hst
  have hkw : Keeps (Old w) w w2 := Keeps.below hst.2 fun _ h => h
  have hrow2 := H0.out.2.2.2.2.1.keeps hkw
  have hcel2 := H0.out.2.2.2.2.2.mono fun _ _ h => PQ.keeps h hkw
  have hlo2 := hown2.lt
  obtain ⟨oA, oc, rfl, _, _⟩ := own_form hown2
  have Hst := hide (And.intro hst (And.intro hown2 (And.intro hrow2 hcel2)))
  have Hlo := hide hlo2
  have hw2 := hst.2.size
  clear hst hg2 hat2 hlo1 hkw hrow2 hcel2 hlo2 hown2 H0
  go_wp2_with (at_builtin; go_loud (refine wpList_append_row _ rfl (.tmp 7) (.tmp 8) 39 rfl w.heap.size 22 i9 _ 1 24 Tryz.underlying39 hi9 hz9 hs9 hb9 rfl (by omega) _ n _ rfl Hst.out.2.1 (Old w) B n' d ys rfl Hst.out.2.2.1 Ho.out.2 (by omega) (by omega) (by omega) ?_))
  intro v3 w3 hown3 hg3 hat3
  have hst3 := old_step (Q := PQ) (fun h k => h.keeps k) Hst.out.1.1 Hst.out.1.2 (fun b hb => (Hlo.out b hb).1) hg3 Hst.out.2.2.2
  obtain ⟨nA, nc, rfl, q1, q2⟩ := own_form hown3
  have hlen : (l ++ m).length = n + n' := by rw [List.length_append, Hn.out.1, Hn.out.2]
  have hfin : PathsAt (Old w3) w3 (l ++ m) nA nc := ⟨by rw [hlen]; unfold R47; omega, by rw [hlen]; exact q1, q2, _, by rw [hlen]; exact Row.of_own hown3 fun b hb => (hown3.lt b hb).2, hst3.1.mono fun _ _ h => PQ.mono h fun b hb => Nat.lt_of_lt_of_le hb hst3.2.size⟩
  have Hf := hide (And.intro hfin hst3.2)
  have Hl := hide hlen
  clear hown3 hg3 hat3 hst3 hfin hlen Hst q1 q2
  go_wp2
  go_ret
  exact ⟨nA, nc, by rw [Hl.out]; rfl, Hf.out.1, Hf.out.2⟩

end Go.Proofs.YtajeghkjppkhcaaGreat

/-!
  spec.Below. Printed by genspecbelow.py.
-/

namespace Go.Proofs.YtajeghkjppkhcaaGreat
open Go.RowKit
attribute [local go_sem] run_store_float

/-- a path's slice without its first step -/
theorem PathAt.tail_ {F : Nat → Prop} {w : World} {r : REl} {l : List REl} {b o c : Nat} (h : PathAt F w (r :: l) (some ⟨b, o, none⟩) c) : PathAt F w l (some ⟨b, o + 11, none⟩) (c - 1) := by
  obtain ⟨h1, h2, h3, xs, h4, h5⟩ := h
  simp only [List.length_cons] at h1 h2 h4
  refine ⟨by omega, by omega, by omega, xs.drop (1 * 11), ?_, ?_⟩
  · have := h4.drop_at (m := 1) (by omega)
    rwa [Nat.add_sub_cancel] at this
  · exact h5.drop_ 1

end Go.Proofs.YtajeghkjppkhcaaGreat
