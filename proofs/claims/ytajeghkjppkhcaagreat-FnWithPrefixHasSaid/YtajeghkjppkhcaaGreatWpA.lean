/-
  Several texts in one: SpecEqS, WithPrefix, BelowP.
-/
import Derived.Test.YtajeghkjppkhcaaGreatSpecSetOf
import Derived.Test.YtajeghkjppkhcaaGreatIterA
set_option linter.unusedVariables false
set_option linter.unusedSimpArgs false
/-!
  spec.EqualSets.
-/

namespace Go.Proofs.YtajeghkjppkhcaaGreat
open Go.RowKit
attribute [local go_sem] run_store_float

end Go.Proofs.YtajeghkjppkhcaaGreat

/-!
  SetNodeMap.Get, Set.WithPrefix, impl.SetWithPrefix.
-/

namespace Go.Proofs.YtajeghkjppkhcaaGreat
open Go.RowKit
attribute [local go_sem] run_store_float

def GetS (a h : Nat) (u c0 c1 c2 c3 : Value) (W : World) : Prop := W.cell? ⟨a, 1, none⟩ = some u ∧ W.cell? ⟨h, 0, none⟩ = some c0 ∧ W.cell? ⟨h, 1, none⟩ = some c1 ∧ W.cell? ⟨h, 2, none⟩ = some c2 ∧ W.cell? ⟨h, 3, none⟩ = some c3

/-- what goes on with a step, if any -/
def GetPost (ks : List (E × St)) (G : Nat → Nat) (e : E) (w : World) (en : Ending) (w' : World) : Prop :=
  Below w.heap.size w w' ∧ ((∃ (i : Nat) (k : E × St), ks[i]? = some k ∧ E.cmp k.1 e = 0 ∧ en = .returned (.tuple #[.pointer (some ⟨G i, 0, none⟩), .bool true])) ∨
    (hasC E.cmp e (ks.map Prod.fst) = false ∧ en = .returned (.tuple #[.pointer none, .bool false])))

set_option maxRecDepth 100000 in
set_option maxHeartbeats 4000000 in
theorem get_calls {w : World} {g : Nat} {m : List E} {ks : List (E × St)} {e : E} {p0 p1 p2 p3 : Option Addr} {KA : Option Addr} {kc : Nat} {ys : List Value} {G : Nat → Nat} (hgl : g < w.heap.size) (m0 : w.cell? ⟨g, 1, none⟩ = some (.slice KA ks.length kc)) (hk47 : ks.length * 40 ≤ R47) (hrow : Row (Old w) w 5 KA ks.length ys) (hyl : ys.length = ks.length * 5)
    (hkid : ∀ (i : Nat) k, ks[i]? = some k → KidAt (Old w) w k.1 (G i) ((ys.drop (i * 5)).take 5)) (hwf : (St.mk m ks).WF) (he : e.Ok) (hpe : PEAt (Old w) w e [.pointer p0, .pointer p1, .pointer p2, .pointer p3]) :
    Calls Tryz.prog 128 #[.pointer (some ⟨g, 1, none⟩), .agg #[.pointer p0, .pointer p1, .pointer p2, .pointer p3]] w (GetPost ks G e w) := by
  have hkeysOk : POk (ks.map Prod.fst) ∧ SortC E.cmp (ks.map Prod.fst) := by
    cases hwf with
    | mk _ _ h3 h4 _ => exact ⟨fun x hx => by obtain ⟨k, hk, rfl⟩ := List.mem_map.1 hx; exact h3 k hk, keys_sorted h4⟩
  have hbx : Below w.heap.size w (w.alloc (.cells #[.pointer p0, .pointer p1, .pointer p2, .pointer p3] 96)) := (Below.refl _ _).alloc (Nat.le_refl _) _
  have hbox := Bk.new w 96 #[.pointer p0, .pointer p1, .pointer p2, .pointer p3]
  obtain ⟨w1, hw1⟩ : ∃ w1, w.alloc (.cells #[.pointer p0, .pointer p1, .pointer p2, .pointer p3] 96) = w1 := ⟨_, rfl⟩
  rw [hw1] at hbx hbox
  have hsz1 : w1.heap.size = w.heap.size + 1 := by rw [← hw1, World.size_alloc]
  have hbd : Below w.heap.size w w1.drew := below_drew hbx
  have kF : Keeps (Old w) w w1.drew := Keeps.below hbd fun _ h => h
  have up : ∀ b, Old w b → Old w1.drew b := fun b hb => by have hb : b < w.heap.size := hb; show b < w1.heap.size; omega
  have hsearch := searchK_calls (f := 171) (fun args W => by kernel_rfl) (Q := fun W a cs => ∃ g, KidAt (Old W) W a g cs) (l := ks.map Prod.fst) (A := KA) (c := kc) (w := w1.drew) (xs := ys) (e := e) (t0 := .pointer p0) (t1 := .pointer p1) (t2 := .pointer p2) (t3 := .pointer p3)
    (by rw [List.length_map]; exact hk47) (by rw [List.length_map]; exact (hrow.keeps kF).mono up) (kids_cells hyl fun i k hk => ((hkid i k hk).keeps kF).mono up)
    (fun W a cs hb ⟨g, h⟩ => ⟨g, (h.keeps (Keeps.below hb fun _ h => h)).mono fun _ h => Nat.lt_of_lt_of_le h hb.size⟩) (fun W a cs ⟨g, h⟩ => by obtain ⟨q0, q1, q2, q3, rfl, -⟩ := h; rfl) hkeysOk.1 he hkeysOk.2
    (fun a cs W hb ⟨g, h⟩ => getCmp_calls h (((hpe.keeps kF).mono up).at_ hb))
  rw [List.length_map] at hsearch
  have Hs := hide hsearch
  have H0 := hide (And.intro hrow (And.intro hkid hbx))
  have s0 := ((bcell hbx).1 g 1 hgl).trans m0
  have b0 := hbox.cell 0
  have b1 := hbox.cell 1
  have b2 := hbox.cell 2
  have b3 := hbox.cell 3
  simp at b0 b1 b2 b3
  have hk47' : ks.length * 40 ≤ 140737488351232 := hk47
  clear hsearch hrow hkid hbx hbox hbd kF up hwf hkeysOk hpe hyl m0 hk47
  go_enter Tryz.func128, Tryz.ntmps128
  go_wp2_with fail
  try rw [hw1]
  obtain ⟨S, hS⟩ : ∃ S, GetS g w.heap.size (.slice KA ks.length kc) (.pointer p0) (.pointer p1) (.pointer p2) (.pointer p3) = S := ⟨_, rfl⟩
  have hS0 : S w1.drew := by rw [← hS]; exact ⟨s0, b0, b1, b2, b3⟩
  refine wp_region_head 10 S (by rfl) (by kernel_rfl) ?_
  refine HT.take 0 (v := ?_) rfl (by kernel_rfl) (fun _ _ _ h => h) (Or.inl ⟨by rfl, ?_⟩) (by assumption) ?_
  rotate_left
  · intro W hSw; rw [← hS] at hSw; obtain ⟨m0, b0, b1, b2, b3⟩ := (show GetS g w.heap.size (.slice KA ks.length kc) (.pointer p0) (.pointer p1) (.pointer p2) (.pointer p3) W from hSw); go_simp; with_reducible rfl
  simp only [Act.put, List.setIfInBounds_toArray, List.set_cons_zero, List.set_cons_succ]
  refine HT.take 1 (v := ?_) rfl (by kernel_rfl) (fun _ _ _ h => h) (Or.inl ⟨by rfl, ?_⟩) (by assumption) ?_
  rotate_left
  · intro W hSw; rw [← hS] at hSw; obtain ⟨m0, b0, b1, b2, b3⟩ := (show GetS g w.heap.size (.slice KA ks.length kc) (.pointer p0) (.pointer p1) (.pointer p2) (.pointer p3) W from hSw); go_simp; with_reducible rfl
  simp only [Act.put, List.setIfInBounds_toArray, List.set_cons_zero, List.set_cons_succ]
  refine HT.take 2 (v := ?_) rfl (by kernel_rfl) (fun _ _ _ h => h) (Or.inl ⟨by rfl, ?_⟩) (by assumption) ?_
  rotate_left
  · intro W hSw; rw [← hS] at hSw; obtain ⟨m0, b0, b1, b2, b3⟩ := (show GetS g w.heap.size (.slice KA ks.length kc) (.pointer p0) (.pointer p1) (.pointer p2) (.pointer p3) W from hSw); go_simp; with_reducible rfl
  simp only [Act.put, List.setIfInBounds_toArray, List.set_cons_zero, List.set_cons_succ]
  refine HT.take 3 (v := ?_) rfl (by kernel_rfl) (fun _ _ _ h => h) (Or.inl ⟨by rfl, ?_⟩) (by assumption) ?_
  rotate_left
  · intro W hSw; rw [← hS] at hSw; obtain ⟨m0, b0, b1, b2, b3⟩ := (show GetS g w.heap.size (.slice KA ks.length kc) (.pointer p0) (.pointer p1) (.pointer p2) (.pointer p3) W from hSw); go_simp; with_reducible rfl
  simp only [Act.put, List.setIfInBounds_toArray, List.set_cons_zero, List.set_cons_succ]
  refine HT.take 4 (v := ?_) rfl (by kernel_rfl) (fun _ _ _ h => h) (Or.inl ⟨by rfl, ?_⟩) (by assumption) ?_
  rotate_left
  · intro W hSw; rw [← hS] at hSw; obtain ⟨m0, b0, b1, b2, b3⟩ := (show GetS g w.heap.size (.slice KA ks.length kc) (.pointer p0) (.pointer p1) (.pointer p2) (.pointer p3) W from hSw); go_simp; with_reducible rfl
  simp only [Act.put, List.setIfInBounds_toArray, List.set_cons_zero, List.set_cons_succ]
  refine HT.one 5 rfl (by kernel_rfl) (by rfl) (fun K hK => ?_)
  go_simp
  refine Hs.out.mono ?_
  rintro en w2 ⟨rfl, hb2⟩
  have hb2' : Below w1.heap.size w1 w2 := below_drew' hb2
  have ec := (bcell hb2').1
  have s0' := (ec g 1 (by omega)).trans s0
  have hS1 : S w2 := by rw [← hS]; exact ⟨s0', (ec _ _ (by omega)).trans b0, (ec _ _ (by omega)).trans b1, (ec _ _ (by omega)).trans b2, (ec _ _ (by omega)).trans b3⟩
  have hbw : Below w.heap.size w w2 := H0.out.2.2.trans (hb2'.mono (by omega))
  obtain ⟨hh, hhe⟩ : ∃ hh, hasC E.cmp e (ks.map Prod.fst) = hh := ⟨_, rfl⟩
  rw [hhe]
  go_simp
  refine hK.out _ _ hS1 ?_
  clear hK
  refine HT.take 6 (v := ?_) rfl (by kernel_rfl) (fun _ _ _ h => h) (Or.inl ⟨by rfl, ?_⟩) (by assumption) ?_
  rotate_left
  · intro W hSw; go_simp; with_reducible rfl
  simp only [Act.put, List.setIfInBounds_toArray, List.set_cons_zero, List.set_cons_succ]
  refine HT.take 7 (v := ?_) rfl (by kernel_rfl) (fun _ _ _ h => h) (Or.inl ⟨by rfl, ?_⟩) (by assumption) ?_
  rotate_left
  · intro W hSw; go_simp; with_reducible rfl
  simp only [Act.put, List.setIfInBounds_toArray, List.set_cons_zero, List.set_cons_succ]
  refine HT.take 8 (v := ?_) rfl (by kernel_rfl) (fun _ _ _ h => h) (Or.inl ⟨by rfl, ?_⟩) (by assumption) ?_
  rotate_left
  · intro W hSw; go_simp; with_reducible rfl
  simp only [Act.put, List.setIfInBounds_toArray, List.set_cons_zero, List.set_cons_succ]
  refine HT.take 9 (v := ?_) rfl (by kernel_rfl) (fun _ _ _ h => h) (Or.inl ⟨by rfl, ?_⟩) (by assumption) ?_
  rotate_left
  · intro W hSw; go_simp; with_reducible rfl
  simp only [Act.put, List.setIfInBounds_toArray, List.set_cons_zero, List.set_cons_succ]
  refine HT.done (by kernel_rfl) ?_
  have Hb := hide hbw
  clear hb2 hb2' ec hS0 hS1 hbw Hs s0 b0 b1 b2 b3
  cases hh
  · have Hh := hide hhe
    clear hhe
    go_wp2
    go_ret2
    exact ⟨Hb.out, .inr ⟨Hh.out, rfl⟩⟩
  · obtain ⟨k, hk, hk0, -⟩ := insK_found hhe
    have hlt : cntC E.cmp e (ks.map Prod.fst) < ks.length := (List.getElem?_eq_some_iff.1 hk).1
    generalize cntC E.cmp e (ks.map Prod.fst) = i at *
    have hkd := H0.out.2.1 i k hk
    generalize hcs : (ys.drop (i * 5)).take 5 = fcs at hkd
    obtain ⟨q0, q1, q2, q3, rfl, hpe⟩ := hkd
    obtain ⟨rb, ro, rfl, hFr, hc⟩ := rown_at H0.out.1 hlt hcs
    have r4 := ((bcell Hb.out).1 rb _ hFr).trans (hc 4 _ rfl)
    have hrl : rb < w.heap.size := hFr
    have hki0 : (0 : Int) ≤ (i : Int) := Int.natCast_nonneg _
    have hki1 : (i : Int) < (ks.length : Int) := by omega
    have Hk := hide (And.intro hk hk0)
    clear hk hk0 hcs hpe hc hFr hhe
    go_wp2
    go_ret2
    exact ⟨Hb.out, .inl ⟨i, k, Hk.out.1, Hk.out.2, rfl⟩⟩

/-- what goes on below a step -/
def subK (e : E) (s : St) : St := (findK e s.kids).getD St.empty
theorem subK_found {e : E} {m : List E} {ks : List (E × St)} (h : (St.mk m ks).WF) (he : e.Ok) {k : E × St} (hk : k ∈ ks) (h0 : E.cmp k.1 e = 0) : subK e (.mk m ks) = k.2 := by
  cases h with
  | mk h1 h2 h3 h4 h5 =>
    unfold subK
    rw [show (St.mk m ks).kids = ks from rfl, findK_of he h3 h4 hk h0]
    rfl
theorem subK_none {e : E} {m : List E} {ks : List (E × St)} (h : (St.mk m ks).WF) (he : e.Ok) (hh : hasC E.cmp e (ks.map Prod.fst) = false) : subK e (.mk m ks) = St.empty := by
  unfold subK
  rw [show (St.mk m ks).kids = ks from rfl]
  cases hf : findK e ks with
  | none => rfl
  | some t =>
    obtain ⟨k, hk, h0, -⟩ := findK_mem hf
    cases h with
    | mk h1 h2 h3 h4 h5 =>
      have := (hasC_iff E.ord_ he (l := ks.map Prod.fst) (fun x hx => by obtain ⟨k, hk, rfl⟩ := List.mem_map.1 hx; exact h3 k hk) (keys_sorted h4)).2 ⟨k.1, List.mem_map.2 ⟨k, hk, rfl⟩, h0⟩
      rw [this] at hh
      cases hh
theorem subK_cases {e : E} {s : St} : subK e s = St.empty ∨ ∃ k ∈ s.kids, subK e s = k.2 := by
  unfold subK
  cases hf : findK e s.kids with
  | none => exact .inl rfl
  | some t =>
    obtain ⟨k, hk, -, e⟩ := findK_mem hf
    exact .inr ⟨k, hk, e.symm⟩
theorem subK_wf {e : E} {s : St} (h : s.WF) : (subK e s).WF := by
  rcases subK_cases (e := e) (s := s) with h1 | ⟨k, hk, h1⟩
  · rw [h1]; exact .empty_
  · rw [h1]
    cases h with
    | mk _ _ _ _ h5 => exact h5 k hk
theorem subK_all {P : E → Prop} {e : E} {s : St} (h : s.All P) : (subK e s).All P := by
  rcases subK_cases (e := e) (s := s) with h1 | ⟨k, hk, h1⟩
  · rw [h1]; exact .empty_ P
  · rw [h1]
    cases h with
    | mk _ _ h3 => exact h3 k hk
theorem St.Ht.succ {n : Nat} {s : St} (h : s.Ht n) : s.Ht (n + 1) := by
  induction h with
  | mk h ih => exact .mk ih
theorem subK_ht {e : E} {s : St} {n : Nat} (h : s.Ht n) : (subK e s).Ht n := by
  rcases subK_cases (e := e) (s := s) with h1 | ⟨k, hk, h1⟩
  · rw [h1]
    cases h with
    | mk h => exact .empty_ _
  · rw [h1]
    cases h with
    | mk h => exact (h k hk).succ
theorem pathsK_of {ks : List (E × St)} {k : E × St} (hk : k ∈ ks) : k.2.paths.length ≤ (St.pathsK ks).length := by
  obtain ⟨i, hi, rfl⟩ := List.getElem_of_mem hk
  have := pathsK_part ks (List.getElem?_eq_getElem hi)
  omega
theorem subK_count {e : E} {s : St} : (subK e s).paths.length ≤ s.paths.length := by
  rcases subK_cases (e := e) (s := s) with h1 | ⟨k, hk, h1⟩
  · rw [h1]; simp [St.empty, St.paths, St.pathsK]
  · rw [h1]
    cases s with
    | mk m ks =>
      have := pathsK_of (ks := ks) hk
      rw [paths_mk, List.length_append]
      omega
theorem subK_has {e : E} {s : St} (h : s.WF) (he : e.Ok) {x : List E} (hx : x ≠ []) : (subK e s).Has x ↔ s.Has (e :: x) := by
  rw [has_cons h he hx]
  unfold subK
  cases hf : findK e s.kids with
  | none =>
    simp only [Option.getD_none, reduceCtorEq, false_and, exists_false, iff_false]
    exact has_empty x
  | some t => simp

/-- a set to be read -/
def GivesSub (t : St) (w : World) (en : Ending) (w' : World) : Prop := ∃ g, en = .returned (.pointer (some ⟨g, 0, none⟩)) ∧ SetR (Old w') w' g t ∧ Below w.heap.size w w'
theorem newSet_read {w w' : World} (h : w' = w.alloc (.cells #[.slice none 0 0, .slice none 0 0] 122)) : SetR (Old w') w' w.heap.size St.empty ∧ Below w.heap.size w w' := by
  subst h
  refine ⟨?_, (Below.refl _ _).alloc (Nat.le_refl _) _⟩
  exact .mk (G := fun _ => 0) (by show _ < _; rw [World.size_alloc]; omega) (Bk.new w _ _) (by simp) (by simp) (by simp) (by simp [maxLen]) (by simp) (by simp [maxLen]) (Row.of_own (World.ownsRow_nil _ 0 96 4) (by simp [Value.ownBlock])) (Row.of_own (World.ownsRow_nil _ 0 186 5) (by simp [Value.ownBlock])) Cells.nil_ (by simp) (by simp)

def WPS (a h : Nat) (c0 c1 c2 c3 : Value) (W : World) : Prop := W.cell? ⟨h, 0, none⟩ = some c0 ∧ W.cell? ⟨h, 1, none⟩ = some c1 ∧ W.cell? ⟨h, 2, none⟩ = some c2 ∧ W.cell? ⟨h, 3, none⟩ = some c3 ∧ a = a

set_option maxRecDepth 100000 in
set_option maxHeartbeats 4000000 in
theorem withPrefix_calls {w : World} {g : Nat} {s : St} {e : E} {p0 p1 p2 p3 : Option Addr} (hs : SetR (Old w) w g s) (hwf : s.WF) (he : e.Ok) (hpe : PEAt (Old w) w e [.pointer p0, .pointer p1, .pointer p2, .pointer p3]) :
    Calls Tryz.prog 82 #[.pointer (some ⟨g, 0, none⟩), .agg #[.pointer p0, .pointer p1, .pointer p2, .pointer p3]] w (GivesSub (subK e s) w) := by
  cases hs with
  | @mk _ m ks MA KA mc kc xs ys G h1 h2 h3 h4 h5 h6 h7 h8 h9 h10 h11 h12 h13 =>
  have hbx : Below w.heap.size w (w.alloc (.cells #[.pointer p0, .pointer p1, .pointer p2, .pointer p3] 96)) := (Below.refl _ _).alloc (Nat.le_refl _) _
  have hbox := Bk.new w 96 #[.pointer p0, .pointer p1, .pointer p2, .pointer p3]
  obtain ⟨w1, hw1⟩ : ∃ w1, w.alloc (.cells #[.pointer p0, .pointer p1, .pointer p2, .pointer p3] 96) = w1 := ⟨_, rfl⟩
  rw [hw1] at hbx hbox
  have hsz1 : w1.heap.size = w.heap.size + 1 := by rw [← hw1, World.size_alloc]
  have hbd : Below w.heap.size w w1.drew := below_drew hbx
  have kF : Keeps (Old w) w w1.drew := Keeps.below hbd fun _ h => h
  have up : ∀ b, Old w b → Old w1.drew b := fun b hb => by have hb : b < w.heap.size := hb; show b < w1.heap.size; omega
  have hgl := h2.lt
  have g1 := h2.cell 1
  simp at g1
  have hyl : ys.length = ks.length * 5 := h10.1
  have hget := get_calls (w := w1.drew) (m := m) (by show g < w1.heap.size; omega) (((bcell hbd).1 g 1 hgl).trans g1) h4 ((h10.keeps kF).mono up) hyl (fun i k hk => ((h12 i k hk).keeps kF).mono up) hwf he ((hpe.keeps kF).mono up)
  have Hs := hide hget
  have H0 := hide (And.intro hbx (And.intro h13 (And.intro hwf he)))
  have b0 := hbox.cell 0
  have b1 := hbox.cell 1
  have b2 := hbox.cell 2
  have b3 := hbox.cell 3
  simp at b0 b1 b2 b3
  clear hget hbx hbox hbd kF up h1 h2 h3 h4 h5 h6 h7 h8 h9 h10 h11 h12 h13 hyl hpe g1 hwf he
  go_enter Tryz.func82, Tryz.ntmps82
  go_wp2_with fail
  try rw [hw1]
  obtain ⟨S, hS⟩ : ∃ S, WPS g w.heap.size (.pointer p0) (.pointer p1) (.pointer p2) (.pointer p3) = S := ⟨_, rfl⟩
  have hS0 : S w1.drew := by rw [← hS]; exact ⟨b0, b1, b2, b3, rfl⟩
  refine wp_region_head 9 S (by rfl) (by kernel_rfl) ?_
  refine HT.take 0 (v := ?_) rfl (by kernel_rfl) (fun _ _ _ h => h) (Or.inl ⟨by rfl, ?_⟩) (by assumption) ?_
  rotate_left
  · intro W hSw; rw [← hS] at hSw; obtain ⟨b0, b1, b2, b3, -⟩ := (show WPS g w.heap.size (.pointer p0) (.pointer p1) (.pointer p2) (.pointer p3) W from hSw); go_simp; with_reducible rfl
  simp only [Act.put, List.setIfInBounds_toArray, List.set_cons_zero, List.set_cons_succ]
  refine HT.take 1 (v := ?_) rfl (by kernel_rfl) (fun _ _ _ h => h) (Or.inl ⟨by rfl, ?_⟩) (by assumption) ?_
  rotate_left
  · intro W hSw; rw [← hS] at hSw; obtain ⟨b0, b1, b2, b3, -⟩ := (show WPS g w.heap.size (.pointer p0) (.pointer p1) (.pointer p2) (.pointer p3) W from hSw); go_simp; with_reducible rfl
  simp only [Act.put, List.setIfInBounds_toArray, List.set_cons_zero, List.set_cons_succ]
  refine HT.take 2 (v := ?_) rfl (by kernel_rfl) (fun _ _ _ h => h) (Or.inl ⟨by rfl, ?_⟩) (by assumption) ?_
  rotate_left
  · intro W hSw; rw [← hS] at hSw; obtain ⟨b0, b1, b2, b3, -⟩ := (show WPS g w.heap.size (.pointer p0) (.pointer p1) (.pointer p2) (.pointer p3) W from hSw); go_simp; with_reducible rfl
  simp only [Act.put, List.setIfInBounds_toArray, List.set_cons_zero, List.set_cons_succ]
  refine HT.take 3 (v := ?_) rfl (by kernel_rfl) (fun _ _ _ h => h) (Or.inl ⟨by rfl, ?_⟩) (by assumption) ?_
  rotate_left
  · intro W hSw; rw [← hS] at hSw; obtain ⟨b0, b1, b2, b3, -⟩ := (show WPS g w.heap.size (.pointer p0) (.pointer p1) (.pointer p2) (.pointer p3) W from hSw); go_simp; with_reducible rfl
  simp only [Act.put, List.setIfInBounds_toArray, List.set_cons_zero, List.set_cons_succ]
  refine HT.one 4 rfl (by kernel_rfl) (by rfl) (fun K hK => ?_)
  go_simp
  refine Hs.out.mono ?_
  rintro en w2 ⟨hb2, hor⟩
  have hb2' : Below w1.heap.size w1 w2 := below_drew' hb2
  have ec := (bcell hb2').1
  have hS1 : S w2 := by rw [← hS]; exact ⟨(ec _ _ (by omega)).trans b0, (ec _ _ (by omega)).trans b1, (ec _ _ (by omega)).trans b2, (ec _ _ (by omega)).trans b3, rfl⟩
  have hbw : Below w.heap.size w w2 := H0.out.1.trans (hb2'.mono (by omega))
  have Hb := hide hbw
  clear hb2 hb2' ec hbw Hs b0 b1 b2 b3
  rcases hor with ⟨i, k, hk, hk0, rfl⟩ | ⟨hh, rfl⟩
  · have hkm := List.mem_of_getElem? hk
    have hsub := subK_found H0.out.2.2.1 H0.out.2.2.2 hkm hk0
    have hset := H0.out.2.1 i k hk
    have Hf := hide (show SetR (Old w2) w2 (G i) (subK e (.mk m ks)) from by
      rw [hsub]
      exact (hset.keeps (Keeps.below Hb.out fun _ h => h)).mono fun b hb => Nat.lt_of_lt_of_le hb Hb.out.size)
    clear hk hk0 hkm hsub hset
    go_simp
    refine hK.out _ _ hS1 ?_
    clear hK
    refine HT.take 5 (v := ?_) rfl (by kernel_rfl) (fun _ _ _ h => h) (Or.inl ⟨by rfl, ?_⟩) (by assumption) ?_
    rotate_left
    · intro W hSw; go_simp; with_reducible rfl
    simp only [Act.put, List.setIfInBounds_toArray, List.set_cons_zero, List.set_cons_succ]
    refine HT.take 6 (v := ?_) rfl (by kernel_rfl) (fun _ _ _ h => h) (Or.inl ⟨by rfl, ?_⟩) (by assumption) ?_
    rotate_left
    · intro W hSw; go_simp; with_reducible rfl
    simp only [Act.put, List.setIfInBounds_toArray, List.set_cons_zero, List.set_cons_succ]
    refine HT.take 7 (v := ?_) rfl (by kernel_rfl) (fun _ _ _ h => h) (Or.inl ⟨by rfl, ?_⟩) (by assumption) ?_
    rotate_left
    · intro W hSw; go_simp; with_reducible rfl
    simp only [Act.put, List.setIfInBounds_toArray, List.set_cons_zero, List.set_cons_succ]
    refine HT.take 8 (v := ?_) rfl (by kernel_rfl) (fun _ _ _ h => h) (Or.inl ⟨by rfl, ?_⟩) (by assumption) ?_
    rotate_left
    · intro W hSw; go_simp; with_reducible rfl
    simp only [Act.put, List.setIfInBounds_toArray, List.set_cons_zero, List.set_cons_succ]
    refine HT.done (by kernel_rfl) ?_
    clear hS0 hS1 hS H0
    go_wp2
    go_ret
    exact ⟨G i, rfl, Hf.out, Hb.out⟩
  · have hsub := subK_none H0.out.2.2.1 H0.out.2.2.2 hh
    have Hsub := hide hsub
    clear hh hsub
    go_simp
    refine hK.out _ _ hS1 ?_
    clear hK
    refine HT.take 5 (v := ?_) rfl (by kernel_rfl) (fun _ _ _ h => h) (Or.inl ⟨by rfl, ?_⟩) (by assumption) ?_
    rotate_left
    · intro W hSw; go_simp; with_reducible rfl
    simp only [Act.put, List.setIfInBounds_toArray, List.set_cons_zero, List.set_cons_succ]
    refine HT.take 6 (v := ?_) rfl (by kernel_rfl) (fun _ _ _ h => h) (Or.inl ⟨by rfl, ?_⟩) (by assumption) ?_
    rotate_left
    · intro W hSw; go_simp; with_reducible rfl
    simp only [Act.put, List.setIfInBounds_toArray, List.set_cons_zero, List.set_cons_succ]
    refine HT.take 7 (v := ?_) rfl (by kernel_rfl) (fun _ _ _ h => h) (Or.inl ⟨by rfl, ?_⟩) (by assumption) ?_
    rotate_left
    · intro W hSw; go_simp; with_reducible rfl
    simp only [Act.put, List.setIfInBounds_toArray, List.set_cons_zero, List.set_cons_succ]
    refine HT.take 8 (v := ?_) rfl (by kernel_rfl) (fun _ _ _ h => h) (Or.inl ⟨by rfl, ?_⟩) (by assumption) ?_
    rotate_left
    · intro W hSw; go_simp; with_reducible rfl
    simp only [Act.put, List.setIfInBounds_toArray, List.set_cons_zero, List.set_cons_succ]
    refine HT.done (by kernel_rfl) ?_
    clear hS0 hS1 hS H0
    go_wp2_with fail
    refine (newSet_calls _).mono ?_
    rintro en w3 ⟨rfl, hw3⟩
    have h3 := newSet_read hw3
    have Hf := hide (show SetR (Old w3) w3 w2.heap.size (subK e (.mk m ks)) ∧ Below w.heap.size w w3 from by
      rw [Hsub.out]
      exact ⟨h3.1, Hb.out.trans (h3.2.mono Hb.out.size)⟩)
    clear hw3 h3 Hsub
    go_wp2
    go_ret
    exact ⟨w2.heap.size, rfl, Hf.out.1, Hf.out.2⟩

theorem setP_ht47 {ls : List (List REl)} {F : Nat → Prop} {A : Option Addr} {c : Nat} {w : World} (h : PathsAt F w ls A c) : (setP (pels ls)).Ht (837723144946 + 1) := by
  refine setP_ht fun p hp => ?_
  obtain ⟨l, hl, rfl⟩ := List.mem_map.1 hp
  obtain ⟨i, hi, rfl⟩ := List.getElem_of_mem hl
  obtain ⟨h1, h2, h3, xs, h4, h5⟩ := h
  obtain ⟨B, d, -, h6, -⟩ := h5.at_ hi
  rw [pel_length]
  unfold R47 at h6
  omega
theorem setP_count47 {ls : List (List REl)} (hn : ls.length ≤ N38) : (setP (pels ls)).paths.length * 24 ≤ R47 := by
  have h1 := setP_count (pels ls)
  have h2 : (pels ls).length = ls.length := List.length_map _
  unfold N38 at hn
  unfold R47
  omega

set_option maxRecDepth 100000 in
set_option maxHeartbeats 4000000 in
theorem setWithPrefix_calls {ls : List (List REl)} {r : REl} {cs : List Value} {A : Option Addr} {c : Nat} {w : World} (h : PathsAt (Old w) w ls A c) (hr : ElemAt (Old w) w r cs) (hok : ∀ p ∈ pels ls, POk p) (he : r.elem.Ok) (hn : ls.length ≤ N38) :
    Calls Tryz.prog 36 #[.slice A ls.length c, .agg cs.toArray] w (GivesPaths ((subK r.elem (setP (pels ls))).paths.map (List.map E.toREl)) w) := by
  have HTs := hide fun (W : World) (hb : Below w.heap.size w W) => toSet_calls (h.at_ hb) hok hn
  have HE := hide fun (W : World) (hb : Below w.heap.size w W) => toElem_calls r W _ (hr.at_ hb)
  have hcn : (subK r.elem (setP (pels ls))).paths.length * 24 ≤ R47 := Nat.le_trans (Nat.mul_le_mul_right _ subK_count) (setP_count47 hn)
  have Hn := hide (And.intro (subK_ht (e := r.elem) (setP_ht47 h)) (And.intro hcn (And.intro (setP_wf hok) he)))
  obtain ⟨a0, a1, a2, a3, a4, a5, a6, a7, a8, a9, aa, ab, ac, ad, ae, af, ag, ah, ai, rfl⟩ := hr.form
  have hbx : Below w.heap.size w (w.alloc (.cells #[.int .i64 a0, .string a1, .slice a2 a3 a4, .slice a5 a6 a7, .int .i64 a8, .int .i64 a9, .float .f64 aa, .string ab, .slice ac ad ae, .slice af ag ah, .int .i64 ai] 33)) := (Below.refl _ _).alloc (Nat.le_refl _) _
  have hbox := Bk.new w 33 #[.int .i64 a0, .string a1, .slice a2 a3 a4, .slice a5 a6 a7, .int .i64 a8, .int .i64 a9, .float .f64 aa, .string ab, .slice ac ad ae, .slice af ag ah, .int .i64 ai]
  obtain ⟨w1, hw1⟩ : ∃ w1, w.alloc (.cells #[.int .i64 a0, .string a1, .slice a2 a3 a4, .slice a5 a6 a7, .int .i64 a8, .int .i64 a9, .float .f64 aa, .string ab, .slice ac ad ae, .slice af ag ah, .int .i64 ai] 33) = w1 := ⟨_, rfl⟩
  rw [hw1] at hbx hbox
  have hsz1 : w1.heap.size = w.heap.size + 1 := by rw [← hw1, World.size_alloc]
  clear h hr hok he hn hcn
  generalize r.elem = e at *
  generalize setP (pels ls) = s at *
  generalize ls.length = n at *
  go_enter Tryz.func36, Tryz.ntmps36
  go_wp2_with fail
  try rw [hw1]
  obtain ⟨S, hS⟩ : ∃ S, (fun W => Bk W w.heap.size 33 #[.int .i64 a0, .string a1, .slice a2 a3 a4, .slice a5 a6 a7, .int .i64 a8, .int .i64 a9, .float .f64 aa, .string ab, .slice ac ad ae, .slice af ag ah, .int .i64 ai]) = S := ⟨_, rfl⟩
  have hS0 : S w1.drew := by rw [← hS]; exact hbox.drew
  refine wp_region_head 5 S (by rfl) (by kernel_rfl) ?_
  refine HT.take 0 (v := ?_) rfl (by kernel_rfl) (fun _ _ _ h => h) (Or.inl ⟨by rfl, ?_⟩) (by assumption) ?_
  rotate_left
  · intro W hSw; rw [← hS] at hSw; have hSw := show Bk W w.heap.size 33 #[.int .i64 a0, .string a1, .slice a2 a3 a4, .slice a5 a6 a7, .int .i64 a8, .int .i64 a9, .float .f64 aa, .string ab, .slice ac ad ae, .slice af ag ah, .int .i64 ai] from hSw; obtain ⟨s0, s1, s2, s3, s4, s5, s6, s7, s8, s9, s10⟩ := hSw.cells11; clear hSw; go_simp; with_reducible rfl
  simp only [Act.put, List.setIfInBounds_toArray, List.set_cons_zero, List.set_cons_succ]
  refine HT.take 2 (v := ?_) rfl (by kernel_rfl) (fun _ _ _ h => h) (Or.inl ⟨by rfl, ?_⟩) (by assumption) ?_
  rotate_left
  · intro W hSw; rw [← hS] at hSw; have hSw := show Bk W w.heap.size 33 #[.int .i64 a0, .string a1, .slice a2 a3 a4, .slice a5 a6 a7, .int .i64 a8, .int .i64 a9, .float .f64 aa, .string ab, .slice ac ad ae, .slice af ag ah, .int .i64 ai] from hSw; obtain ⟨s0, s1, s2, s3, s4, s5, s6, s7, s8, s9, s10⟩ := hSw.cells11; clear hSw; go_simp; with_reducible rfl
  simp only [Act.put, List.setIfInBounds_toArray, List.set_cons_zero, List.set_cons_succ]
  refine HT.one 1 rfl (by kernel_rfl) (by rfl) (fun K hK => ?_)
  go_simp
  have hbd : Below w.heap.size w w1.drew := below_drew hbx
  refine (HTs.out _ hbd).mono ?_
  intro en w2 hg
  obtain ⟨rfl, hset, hb2⟩ := hg.read
  clear hg
  have hbw2 : Below w.heap.size w w2 := hbd.trans (hb2.mono hbd.size)
  have hS2 : S w2 := by rw [← hS]; exact hbox.drew.below hb2 (by show w.heap.size < w1.heap.size; omega)
  go_simp
  refine hK.out _ _ hS2 ?_
  clear hK
  refine HT.one 3 rfl (by kernel_rfl) (by rfl) (fun K hK => ?_)
  go_simp
  refine (HE.out _ hbw2).mono ?_
  rintro en w3 ⟨ps, rfl, hp, hb3⟩
  obtain ⟨m0, m1, m2, m3, rfl⟩ := hp.form
  have hbw3 : Below w.heap.size w w3 := hbw2.trans (hb3.mono hbw2.size)
  have hsz12 : w1.heap.size ≤ w2.heap.size := hb2.size
  have hS3 : S w3 := by
    rw [← hS] at hS2 ⊢
    exact hS2.below hb3 (by omega)
  have hset3 : SetR (Old w3) w3 (w.heap.size + 1) s := by rw [← hsz1]; exact (hset.keeps (Keeps.below hb3 fun b hb => hb.2)).mono fun b hb => Nat.lt_of_lt_of_le hb.2 hb3.size
  have HW := hide (withPrefix_calls hset3 Hn.out.2.2.1 Hn.out.2.2.2 (hp.mono (G := Old w3) fun b hb => hb.2))
  have Hb := hide hbw3
  clear hset hb2 hbw2 hp hb3 hbw3 hset3 hS2 hsz12 hbox hbx HTs HE
  go_simp
  refine hK.out _ _ hS3 ?_
  clear hK
  refine HT.one 4 rfl (by kernel_rfl) (by rfl) (fun K hK => ?_)
  go_simp
  refine HW.out.mono ?_
  rintro en w4 ⟨g4, rfl, hset4, hb4⟩
  have hbw4 : Below w.heap.size w w4 := Hb.out.trans (hb4.mono Hb.out.size)
  have hS4 : S w4 := by
    have h1 := Hb.out.size
    rw [← hS] at hS3 ⊢
    exact hS3.below hb4 hS3.lt
  have HF := hide (fromSet_calls hset4 Hn.out.1 (by unfold R47; omega) Hn.out.2.1)
  have Hb4 := hide hbw4
  clear hset4 hb4 hbw4 HW Hb Hn
  go_simp
  refine hK.out _ _ hS4 ?_
  clear hK
  refine HT.done (by kernel_rfl) ?_
  simp only [List.drop_succ_cons, List.drop_zero]
  clear hS0 hS3 hS4 hS
  generalize (subK e s).paths.map (List.map E.toREl) = rs at *
  go_wp2_with fail
  refine HF.out.mono ?_
  rintro en w5 ⟨B, d, rfl, hp, hb5⟩
  have Hf := hide (And.intro (hp.mono fun b hb => ⟨Nat.le_trans Hb4.out.size hb.1, hb.2⟩ : PathsAt (Fr w.heap.size w5) w5 rs B d) (Hb4.out.trans (hb5.mono Hb4.out.size)))
  clear hp hb5
  go_wp2
  go_ret
  exact ⟨B, d, rfl, Hf.out.1, Hf.out.2⟩

end Go.Proofs.YtajeghkjppkhcaaGreat

/-!
  Plain: what follows a step in the paths of a list; lists of alike paths.
-/

namespace Go.Proofs.YtajeghkjppkhcaaGreat

end Go.Proofs.YtajeghkjppkhcaaGreat
