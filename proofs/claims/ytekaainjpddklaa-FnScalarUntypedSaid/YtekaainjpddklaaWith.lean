/-
  The reference's WithField: a field laid into a map in its plain form.
-/
import Derived.Test.YtekaainjpddklaaClean
import Derived.StillTailTactics
namespace Go.Proofs.Ytekaainjpddklaa
open Go.RowKit
attribute [local go_sem] run_store_float

theorem str_info : (Try.prog.info? 9).map (fun i => (i.zero, i.size, i.bytes)) = some (some (.string ⟨#[]⟩), 1, 16) := by kernel_rfl
theorem val_info : (Try.prog.info? 26).map (fun i => (i.zero, i.size, i.bytes)) = some (some (.agg #[.int .i64 0, .int .i64 0, .float .f64 0, .string ⟨#[]⟩, .slice none 0 0, .slice none 0 0]), 6, 88) := by kernel_rfl

/-- where WithField stands: its argument's struct, the value's, its result's and the new map's, in this order; the new map's two rows -/
structure WF (w0 W : World) (ob : Nat) (mcs vcs rcs : Array Value) (kv lv : Value) (nk nl : Nat) (kxs lxs : List Value) : Prop where
  below : Below w0.heap.size w0 W
  M : Bk W w0.heap.size 26 mcs
  V : Bk W (w0.heap.size + 1) 26 vcs
  R : Bk W (w0.heap.size + 2) 26 rcs
  O : Bk W ob 26 #[.int .i64 6, .int .i64 0, .float .f64 0, .string ⟨#[]⟩, kv, lv]
  ob1 : w0.heap.size + 2 < ob
  K : W.ownsRow (ob + 1) 9 1 kv nk kxs
  L : W.ownsRow (ob + 1) 26 6 lv nl lxs

section
variable {w0 W W' : World} {ob : Nat} {mcs vcs rcs : Array Value} {kv lv kv' lv' : Value} {nk nl nk' nl' : Nat} {kxs lxs kxs' lxs' : List Value}
theorem WF.drew (h : WF w0 W ob mcs vcs rcs kv lv nk nl kxs lxs) : WF w0 W.drew ob mcs vcs rcs kv lv nk nl kxs lxs := ⟨h.below.drew, h.M, h.V, h.R, h.O, h.ob1, h.K, h.L⟩
theorem WF.alloc (h : WF w0 W ob mcs vcs rcs kv lv nk nl kxs lxs) (o : Obj) : WF w0 (W.alloc o) ob mcs vcs rcs kv lv nk nl kxs lxs :=
  ⟨h.below.alloc h.below.size o, h.M.alloc o, h.V.alloc o, h.R.alloc o, h.O.alloc o, h.ob1, h.K.alloc o, h.L.alloc o⟩
/-- behind an append onto the keys, stored -/
theorem WF.keys (h : WF w0 W ob mcs vcs rcs kv lv nk nl kxs lxs) (hg : W.grownBy W' kv.ownBlock) (hk : W'.ownsRow (ob + 1) 9 1 kv' nk' kxs') :
    WF w0 (W'.setCell ⟨ob, 4, none⟩ kv') ob mcs vcs rcs kv' lv nk' nl kxs' lxs := by
  have hKo : ∀ g, kv.ownBlock = some g → ob + 1 ≤ g := fun g e => (h.K.lt g e).1
  have hne : ∀ g, g ≤ ob → some g ≠ kv.ownBlock := fun g hg e => by have := hKo g e.symm; omega
  have o1 := h.ob1
  have hs := h.below.size
  have q : ∀ X : Value, ((W'.setCell ⟨ob, 4, none⟩ X).heap.size = W'.heap.size) := fun X => by simp
  refine ⟨(h.below.grown hg hs (fun g e => by have := hKo g e; omega)).setCell (by simp; omega) _, ((h.M.grown hg (hne _ (by omega))).far (by simp; omega) _), ((h.V.grown hg (hne _ (by omega))).far (by simp; omega) _),
    ((h.R.grown hg (hne _ (by omega))).far (by simp; omega) _), ?_, o1, ownsRow_setCell_below hk (by simp) _, ownsRow_setCell_below (h.L.kept hg ?_) (by simp) _⟩
  · have := (h.O.grown hg (hne _ (by omega))).set_ 4 kv'
    simpa using this
  · rcases hr : lv.ownBlock with _ | g
    · exact .inl rfl
    · right
      intro e
      rcases h.K.2 with ⟨e1, _⟩ | ⟨gk, cap, cur, e1, _, hh, _⟩
      · rw [e1] at e; simp [Value.ownBlock] at e
      · rcases h.L.2 with ⟨e2, _⟩ | ⟨gl, cap', cur', e2, _, hh', _⟩
        · rw [e2] at hr; simp [Value.ownBlock] at hr
        · rw [e1] at e
          rw [e2] at hr
          simp [Value.ownBlock] at e hr
          have : gk = gl := by omega
          subst this
          rw [hh] at hh'
          injection hh' with hh'
          injection hh' with _ ht
          exact absurd ht (by decide)
/-- behind an append onto the values, stored -/
theorem WF.vals (h : WF w0 W ob mcs vcs rcs kv lv nk nl kxs lxs) (hg : W.grownBy W' lv.ownBlock) (hl : W'.ownsRow (ob + 1) 26 6 lv' nl' lxs') :
    WF w0 (W'.setCell ⟨ob, 5, none⟩ lv') ob mcs vcs rcs kv lv' nk nl' kxs lxs' := by
  have hKo : ∀ g, lv.ownBlock = some g → ob + 1 ≤ g := fun g e => (h.L.lt g e).1
  have hne : ∀ g, g ≤ ob → some g ≠ lv.ownBlock := fun g hg e => by have := hKo g e.symm; omega
  have o1 := h.ob1
  have hs := h.below.size
  refine ⟨(h.below.grown hg hs (fun g e => by have := hKo g e; omega)).setCell (by simp; omega) _, ((h.M.grown hg (hne _ (by omega))).far (by simp; omega) _), ((h.V.grown hg (hne _ (by omega))).far (by simp; omega) _),
    ((h.R.grown hg (hne _ (by omega))).far (by simp; omega) _), ?_, o1, ownsRow_setCell_below (h.K.kept hg ?_) (by simp) _, ownsRow_setCell_below hl (by simp) _⟩
  · have := (h.O.grown hg (hne _ (by omega))).set_ 5 lv'
    simpa using this
  · rcases hr : kv.ownBlock with _ | g
    · exact .inl rfl
    · right
      intro e
      rcases h.L.2 with ⟨e1, _⟩ | ⟨gk, cap, cur, e1, _, hh, _⟩
      · rw [e1] at e; simp [Value.ownBlock] at e
      · rcases h.K.2 with ⟨e2, _⟩ | ⟨gl, cap', cur', e2, _, hh', _⟩
        · rw [e2] at hr; simp [Value.ownBlock] at hr
        · rw [e1] at e
          rw [e2] at hr
          simp [Value.ownBlock] at e hr
          have : gk = gl := by omega
          subst this
          rw [hh] at hh'
          injection hh' with hh'
          injection hh' with _ ht
          exact absurd ht (by decide)
end

section
variable {w0 W : World} {ob : Nat} {mcs vcs rcs : Array Value} {kv lv : Value} {nk nl : Nat} {kxs lxs : List Value}
/-- what a region reads of it -/
theorem WF.reads {k0 k1 k2 k3 k4 k5 : Value} (h : WF w0 W ob #[k0, k1, k2, k3, k4, k5] vcs rcs kv lv nk nl kxs lxs) :
    W.cell? ⟨w0.heap.size, 4, none⟩ = some k4 ∧ W.cell? ⟨w0.heap.size, 5, none⟩ = some k5 ∧ W.cell? ⟨ob, 4, none⟩ = some kv ∧ W.cell? ⟨ob, 5, none⟩ = some lv ∧ w0.heap.size < W.heap.size ∧ ob < W.heap.size :=
  ⟨by simpa using h.M.cell 4, by simpa using h.M.cell 5, by simpa using h.O.cell 4, by simpa using h.O.cell 5, h.M.lt, h.O.lt⟩
/-- what the store into the new map's struct needs, behind an append -/
theorem WF.stores {W' : World} {row : Option Nat} (h : WF w0 W ob mcs vcs rcs kv lv nk nl kxs lxs) (hg : W.grownBy W' row) (hr : ∀ g, row = some g → ob + 1 ≤ g) :
    W'.cell? ⟨ob, 4, none⟩ = some kv ∧ W'.cell? ⟨ob, 5, none⟩ = some lv ∧ W'.frozen? ⟨ob, 4, none⟩ = false ∧ W'.frozen? ⟨ob, 5, none⟩ = false := by
  have O' := h.O.grown hg (fun e => by have := hr ob e.symm; omega)
  exact ⟨by simpa using O'.cell 4, by simpa using O'.cell 5, O'.free 4, O'.free 5⟩
theorem WF.old {F : Nat → Prop} (h : WF w0 W ob mcs vcs rcs kv lv nk nl kxs lxs) (hF : ∀ b, F b → b < w0.heap.size) : Keeps F w0 W := Keeps.below h.below hF
end

/-- what WithField leaves, said of cells -/
def WithPost (l : List (ByteArray × RV)) (rv : RV) (k : ByteArray) (w : World) (c0 c1 c2 c3 c4 c5 : Value) (xs : List Value) (e : Ending) (w' : World) : Prop :=
  ∃ kv lv ob, e = .returned (.agg #[.int .i64 6, .int .i64 0, .float .f64 0, .string ⟨#[]⟩, kv, lv]) ∧ Below w.heap.size w w' ∧ w.heap.size < ob ∧
    w'.ownsRow ob 9 1 kv (ins k rv l).length ((ins k rv l).map fun p => Value.string p.1) ∧
    w'.ownsRow ob 26 6 lv (ins k rv l).length (xs.take (cnt k l * 6) ++ [c0, c1, c2, c3, c4, c5] ++ xs.drop ((if found k l then cnt k l + 1 else cnt k l) * 6))

set_option maxRecDepth 100000 in
set_option maxHeartbeats 8000000 in
theorem withField_walk (l : List (ByteArray × RV)) (rv : RV) (hs : Sorted l) (F : Nat → Prop) (w : World) (hF : ∀ b, F b → b < w.heap.size) (kind n : Int) (f : Nat) (s k : ByteArray) (KA LA : Option Addr) (kc lc : Nat) (xs : List Value)
    (hk16 : (l.length + 1) * 16 ≤ R47) (hl88 : (l.length + 1) * 88 ≤ R47) (hkc : l.length ≤ kc) (hkc2 : kc ≤ maxLen) (hlc : l.length ≤ lc) (hlc2 : lc ≤ maxLen)
    (hrow : Row F w 1 KA l.length (l.map fun p => Value.string p.1)) (hrow6 : Row F w 6 LA l.length xs) (hxs : ∀ u ∈ xs, u.oneCell' = true) (c0 c1 c2 c3 c4 c5 : Value) (hcs : ∀ u ∈ [c0, c1, c2, c3, c4, c5], u.oneCell' = true) :
    Calls Try.prog 44 #[.agg #[.int .i64 kind, .int .i64 n, .float .f64 f, .string s, .slice KA l.length kc, .slice LA l.length lc], .string k, .agg #[c0, c1, c2, c3, c4, c5]] w
      (WithPost l rv k w c0 c1 c2 c3 c4 c5 xs) := by
  obtain ⟨i9, hi9, hz9, hs9, hb9⟩ := info_parts str_info
  obtain ⟨i26, hi26, hz26, hs26, hb26⟩ := info_parts val_info
  have hll : l.length ≤ 8796093022208 := by unfold R47 at hk16; omega
  have hcl := cnt_le k l
  have h16 : (l.length + 1) * 16 ≤ 140737488351232 := hk16
  have h88 : (l.length + 1) * 88 ≤ 140737488351232 := hl88
  have hst : ∀ j : Nat, ∀ u ∈ ((l.map fun p => Value.string p.1).take j), u.oneCell' = true := by
    intro j u hu
    obtain ⟨p, _, rfl⟩ := List.mem_map.1 (List.mem_of_mem_take hu)
    rfl
  have hsd : ∀ j : Nat, ∀ u ∈ ((l.map fun p => Value.string p.1).drop j), u.oneCell' = true := by
    intro j u hu
    obtain ⟨p, _, rfl⟩ := List.mem_map.1 (List.mem_of_mem_drop hu)
    rfl
  have HR := hide hrow
  have HX := hide hrow6
  have H1 := hide (And.intro hst (And.intro hsd (And.intro hxs hcs)))
  have HB := hide (And.intro h16 h88)
  have HF := hide hF
  have hi16 := hide (show l.length * 16 ≤ R47 by unfold R47; omega)
  clear hrow hrow6 hst hsd hxs hcs h16 h88 hk16 hl88 hF
  go_enter Try.func44, Try.ntmps44
  go_wp2_with fail
  refine (fieldIndex_calls l hs kind n f s k KA kc _ _ hi16.out ((HR.out.keeps (w' := _) (Keeps.below (((((Below.refl w.heap.size w).alloc (Nat.le_refl _) _).alloc (by simp) _).alloc (by simp; omega) _)) HF.out)).mono (fun b hb => by have := HF.out b hb; simp only [Old, World.size_alloc]; omega))).mono ?_
  rintro e w1 ⟨rfl, hb1⟩
  have hsz1 := hb1.size
  simp only [World.size_alloc] at hsz1
  have M1 := (((Bk.new w _ _).alloc _).alloc _).below hb1 (by simp only [World.size_alloc]; omega)
  have V1 := ((Bk.new _ _ _).alloc _).below hb1 (by simp only [World.size_alloc]; omega)
  have R1 := (Bk.new _ _ _).below hb1 (by simp only [World.size_alloc]; omega)
  simp only [World.size_alloc] at V1 R1
  have B1 : Below w.heap.size w w1 := ((((Below.refl w.heap.size w).alloc (Nat.le_refl _) _).alloc (by simp) _).alloc (by simp; omega) _).trans (hb1.mono (by simp only [World.size_alloc]; omega))
  have st0 : WF w (w1.alloc (.cells #[.int .i64 6, .int .i64 0, .float .f64 0, .string ⟨#[]⟩, .slice none 0 0, .slice none 0 0] 26)) w1.heap.size _ _ _ (.slice none 0 0) (.slice none 0 0) 0 0 [] [] :=
    ⟨B1.alloc B1.size _, M1.alloc _, V1.alloc _, R1.alloc _, Bk.new _ _ _, by omega, World.ownsRow_nil _ _ _ _, World.ownsRow_nil _ _ _ _⟩
  clear M1 V1 R1 hb1
  have hcc0 : (0 : Int) ≤ (cnt k l : Int) := Int.natCast_nonneg _
  have hcc1 : (cnt k l : Int) ≤ (l.length : Int) := by omega
  have hcc2 : (cnt k l : Int) ≤ (kc : Int) := by omega
  have hcc3 : (cnt k l : Int) ≤ (lc : Int) := by omega
  obtain ⟨m4, m5, o4, o5, mlt, olt⟩ := st0.reads
  -- the keys before k
  go_wp2_with fail
  refine wp_region_still_tail 6 (by kernel_rfl) (by kernel_rfl) ?_
  change wpStill _ _ (World.drew _) (fun a' => wpList _ _ _ _ a' (World.drew _)) _ _
  simp only [List.take_succ_cons, List.take_zero, List.drop_succ_cons, List.drop_zero]
  repeat still_step
  refine wpStill_nil ?_
  clear m4 m5 o4 o5 mlt olt
  refine wpList_append_row _ rfl (.tmp 18) (.tmp 22) 23 rfl (w1.heap.size + 1) 9 i9 _ 1 16 Try.underlying23 hi9 hz9 hs9 hb9 rfl (by omega) (.slice none 0 0) 0 [] rfl st0.drew.K F KA (cnt k l) kc
    ((l.map fun p => Value.string p.1).take (cnt k l)) rfl (by have := (HR.out.take hcl).keeps (st0.drew.old HF.out); simpa using this) (H1.out.1 _) (by have := HB.out.1; omega) (by omega) (by simp) ?_
  intro kv1 w2 hown2 hg2 _
  obtain ⟨kA1, kc1, rfl, hk1, hk1'⟩ := own_form hown2
  have sts := st0.drew.stores hg2 (fun g e => by simp [Value.ownBlock] at e)
  simp only [Nat.zero_add, List.nil_append] at hown2 hk1 sts ⊢
  obtain ⟨q4, q5, f4, f5⟩ := sts
  have st1 := st0.drew.keys hg2 hown2
  clear hg2 hown2 st0
  go_wp2
  clear q4 q5 f4 f5
  generalize (w2.setCell ⟨w1.heap.size, 4, none⟩ (.slice kA1 (cnt k l) kc1)) = W1 at st1 ⊢
  -- the values before k
  obtain ⟨m4, m5, o4, o5, mlt, olt⟩ := st1.reads
  refine wp_region_still_tail 6 (by kernel_rfl) (by kernel_rfl) ?_
  change wpStill _ _ (World.drew _) (fun a' => wpList _ _ _ _ a' (World.drew _)) _ _
  simp only [List.take_succ_cons, List.take_zero, List.drop_succ_cons, List.drop_zero]
  repeat still_step
  refine wpStill_nil ?_
  clear m4 m5 o4 o5 mlt olt
  refine wpList_append_row _ rfl (.tmp 26) (.tmp 30) 24 rfl (w1.heap.size + 1) 26 i26 _ 6 88 Try.underlying24 hi26 hz26 hs26 hb26 rfl (by omega) (.slice none 0 0) 0 [] rfl st1.drew.L F LA (cnt k l) lc
    (xs.take (cnt k l * 6)) rfl ((HX.out.take hcl).keeps (st1.drew.old HF.out)) (fun u hu => H1.out.2.2.1 u (List.mem_of_mem_take hu)) (by have := HB.out.2; omega) (by omega) (by have := st1.O.lt; simp; omega) ?_
  intro lv1 w3 hown3 hg3 _
  obtain ⟨lA1, lc1, rfl, hk2, hk2'⟩ := own_form hown3
  have sts := st1.drew.stores hg3 (fun g e => by simp [Value.ownBlock] at e)
  simp only [Nat.zero_add, List.nil_append] at hown3 hk2 sts ⊢
  obtain ⟨q4, q5, f4, f5⟩ := sts
  have st2 := st1.drew.vals hg3 hown3
  clear hg3 hown3 st1
  -- the key
  go_wp2_with (at_builtin; refine wpList_append_own_at _ rfl (.tmp 34) (.tmp 36) 23 rfl (w1.heap.size + 1) 9 i9 _ 1 16 Try.underlying23 hi9 hz9 hs9 hb9 rfl (by omega) _ (cnt k l) _ rfl (st2.alloc _).K ⟨w3.heap.size, 0, none⟩ 1 1 [.string k] rfl rfl (cells_at _ [.string k] _ _ (by simp)) (by simp [Value.oneCell']) (by unfold maxLen; omega) (by have := HB.out.1; omega) (by have := st2.O.lt; simp at this; simp; omega) ?_)
  intro kv2 w4 hown4 hg4 _ _
  obtain ⟨kA2, kc2, rfl, hk3, hk3'⟩ := own_form hown4
  obtain ⟨p4, p5, e4, e5⟩ := (st2.alloc _).stores hg4 (fun g e => (st2.K.lt g e).1)
  have V4 := (st2.alloc (.cells #[.string k] 9)).V.grown hg4 (fun e => by have := (st2.K.lt _ e.symm).1; omega)
  have st3 := (st2.alloc _).keys hg4 hown4
  clear hg4 hown4 st2 q4 q5 f4 f5
  -- the value
  obtain ⟨v0, v1, v2, v3, v4, v5⟩ : w4.cell? ⟨w.heap.size + 1, 0, none⟩ = some c0 ∧ w4.cell? ⟨w.heap.size + 1, 1, none⟩ = some c1 ∧ w4.cell? ⟨w.heap.size + 1, 2, none⟩ = some c2 ∧ w4.cell? ⟨w.heap.size + 1, 3, none⟩ = some c3 ∧ w4.cell? ⟨w.heap.size + 1, 4, none⟩ = some c4 ∧ w4.cell? ⟨w.heap.size + 1, 5, none⟩ = some c5 :=
    ⟨by simpa using V4.cell 0, by simpa using V4.cell 1, by simpa using V4.cell 2, by simpa using V4.cell 3, by simpa using V4.cell 4, by simpa using V4.cell 5⟩
  go_wp2_with (at_builtin; refine wpList_append_own_at _ rfl (.tmp 40) (.tmp 42) 24 rfl (w1.heap.size + 1) 26 i26 _ 6 88 Try.underlying24 hi26 hz26 hs26 hb26 rfl (by omega) _ (cnt k l) _ rfl (st3.alloc _).L ⟨w4.heap.size, 0, none⟩ 1 1 [c0, c1, c2, c3, c4, c5] rfl rfl (cells_at _ [c0, c1, c2, c3, c4, c5] _ _ (by simp)) H1.out.2.2.2 (by unfold maxLen; omega) (by have := HB.out.2; omega) (by have := st3.O.lt; simp at this; simp; omega) ?_)
  clear v0 v1 v2 v3 v4 v5 V4 p4 p5 e4 e5
  intro lv2 w5 hown5 hg5 _ _
  obtain ⟨lA2, lc2, rfl, hk4, hk4'⟩ := own_form hown5
  obtain ⟨p4, p5, e4, e5⟩ := (st3.alloc _).stores hg5 (fun g e => (st3.L.lt g e).1)
  have st4 := (st3.alloc _).vals hg5 hown5
  clear hg5 hown5 st3
  have hdec : found k l = true → cnt k l < l.length := by
    intro h
    unfold found at h
    rw [decide_eq_true_iff] at h
    rcases Nat.lt_or_ge (cnt k l) l.length with h1 | h1
    · exact h1
    · rw [List.getElem?_eq_none h1] at h
      cases h
  cases hfd : found k l
  · have Hfd := hide hfd
    clear hfd hdec
    go_wp2
    clear p4 p5 e4 e5
    generalize hW2 : (w5.setCell ⟨w1.heap.size, 5, none⟩ (.slice lA2 (cnt k l + 1) lc2)) = W2 at st4 ⊢
    clear hW2
    -- the keys behind k
    obtain ⟨m4, m5, o4, o5, mlt, olt⟩ := st4.reads
    refine wp_region_still_tail 6 (by kernel_rfl) (by kernel_rfl) ?_
    change wpStill _ _ (World.drew _) (fun a' => wpList _ _ _ _ a' (World.drew _)) _ _
    simp only [List.take_succ_cons, List.take_zero, List.drop_succ_cons, List.drop_zero]
    repeat still_step
    refine wpStill_nil ?_
    clear m4 m5 o4 o5 mlt olt
    refine wpList_append_row _ rfl (.tmp 49) (.tmp 53) 23 rfl (w1.heap.size + 1) 9 i9 _ 1 16 Try.underlying23 hi9 hz9 hs9 hb9 rfl (by omega) (.slice kA2 (cnt k l + 1) kc2) (cnt k l + 1) _ rfl st4.drew.K F _ _ _
      ((l.map fun p => Value.string p.1).drop ((cnt k l))) rfl (by have := (HR.out.drop (m := (cnt k l)) (by omega) hkc).keeps (st4.drew.old HF.out); simpa only [Nat.mul_one] using this) (H1.out.2.1 _) (by have := HB.out.1; omega) (by omega) (by have := st4.O.lt; simp; omega) ?_
    intro kv3 w6 hown6 hg6 _
    obtain ⟨kA3, kc3, rfl, hk5, hk5'⟩ := own_form hown6
    obtain ⟨p4, p5, e4, e5⟩ := st4.drew.stores hg6 (fun g e => (st4.drew.K.lt g e).1)
    have st5 := st4.drew.keys hg6 hown6
    clear hg6 hown6 st4
    generalize (if kc = cnt k l then KA else Option.map (fun x => x.add (cnt k l)) KA) = KX
    go_wp2
    clear p4 p5 e4 e5
    generalize hW3 : (w6.setCell ⟨w1.heap.size, 4, none⟩ _) = W3 at st5 ⊢
    clear hW3
    -- the values behind k
    obtain ⟨m4, m5, o4, o5, mlt, olt⟩ := st5.reads
    refine wp_region_still_tail 6 (by kernel_rfl) (by kernel_rfl) ?_
    change wpStill _ _ (World.drew _) (fun a' => wpList _ _ _ _ a' (World.drew _)) _ _
    simp only [List.take_succ_cons, List.take_zero, List.drop_succ_cons, List.drop_zero]
    repeat still_step
    refine wpStill_nil ?_
    clear m4 m5 o4 o5 mlt olt
    refine wpList_append_row _ rfl (.tmp 57) (.tmp 61) 24 rfl (w1.heap.size + 1) 26 i26 _ 6 88 Try.underlying24 hi26 hz26 hs26 hb26 rfl (by omega) (.slice lA2 (cnt k l + 1) lc2) (cnt k l + 1) _ rfl st5.drew.L F _ _ _
      (xs.drop ((cnt k l) * 6)) rfl ((HX.out.drop (m := (cnt k l)) (by omega) hlc).keeps (st5.drew.old HF.out)) (fun u hu => H1.out.2.2.1 u (List.mem_of_mem_drop hu)) (by have := HB.out.2; omega) (by omega) (by have := st5.O.lt; simp; omega) ?_
    intro lv3 w7 hown7 hg7 _
    obtain ⟨lA3, lc3, rfl, hk6, hk6'⟩ := own_form hown7
    obtain ⟨p4, p5, e4, e5⟩ := st5.drew.stores hg7 (fun g e => (st5.drew.L.lt g e).1)
    have O7 := st5.drew.O.grown hg7 (fun e => by have := (st5.drew.L.lt _ e.symm).1; omega)
    have R7 := st5.drew.R.grown hg7 (fun e => by have := (st5.drew.L.lt _ e.symm).1; omega)
    have st6 := st5.drew.vals hg7 hown7
    clear hg7 hown7 st5
    have h9 := st6.O
    have h8 := st6.R
    generalize (if lc = cnt k l then LA else Option.map (fun x => x.add ((cnt k l) * 6)) LA) = LX
    have rb : w.heap.size + 2 = w.heap.size + 1 + 1 := rfl
    rw [rb] at h8
    have HFIN := hide (And.intro h8 st6)
    obtain ⟨a0, a1, a2, a3, r0, r1, r2, r3, r4, r5⟩ : w7.cell? ⟨w1.heap.size, 0, none⟩ = some (.int .i64 6) ∧ w7.cell? ⟨w1.heap.size, 1, none⟩ = some (.int .i64 0) ∧ w7.cell? ⟨w1.heap.size, 2, none⟩ = some (.float .f64 0) ∧ w7.cell? ⟨w1.heap.size, 3, none⟩ = some (.string ⟨#[]⟩) ∧
        w7.cell? ⟨w.heap.size + 1 + 1, 0, none⟩ = some (.int .i64 0) ∧ w7.cell? ⟨w.heap.size + 1 + 1, 1, none⟩ = some (.int .i64 0) ∧ w7.cell? ⟨w.heap.size + 1 + 1, 2, none⟩ = some (.float .f64 0) ∧ w7.cell? ⟨w.heap.size + 1 + 1, 3, none⟩ = some (.string ⟨#[]⟩) ∧
        w7.cell? ⟨w.heap.size + 1 + 1, 4, none⟩ = some (.slice none 0 0) ∧ w7.cell? ⟨w.heap.size + 1 + 1, 5, none⟩ = some (.slice none 0 0) :=
      ⟨by simpa using O7.cell 0, by simpa using O7.cell 1, by simpa using O7.cell 2, by simpa using O7.cell 3, by simpa using R7.cell 0, by simpa using R7.cell 1, by simpa using R7.cell 2, by simpa using R7.cell 3, by simpa using R7.cell 4, by simpa using R7.cell 5⟩
    have fr7 : ∀ i, w7.frozen? ⟨w.heap.size + 1 + 1, i, none⟩ = false := fun i => R7.free i
    have hne : ¬ w1.heap.size = w.heap.size + 1 + 1 := by omega
    have hne' : ¬ w.heap.size + 1 + 1 = w1.heap.size := by omega
    clear O7 R7 h9 h8 st6
    go_wp2
    obtain ⟨h8, st6⟩ := HFIN.out
    refine bodyPost_ret (results_cell_row rfl _ _ (w.heap.size + 1 + 1) 26 #[.int .i64 6, .int .i64 0, .float .f64 0, .string ⟨#[]⟩, .slice kA3 (cnt k l + 1 + (l.length - (cnt k l))) kc3, .slice lA3 (cnt k l + 1 + (l.length - (cnt k l))) lc3] (0, 0) _ rfl (show Bk _ (w.heap.size + 1 + 1) 26 _ from by simpa using ((((((h8.set_ 0 _).set_ 1 _).set_ 2 _).set_ 3 _).set_ 4 _).set_ 5 _)) Try.underlying26 rfl (by kernel_rfl)) rfl ?_
    have hb2 : w.heap.size ≤ w.heap.size + 1 + 1 := by omega
    have hlt2 : w.heap.size + 1 + 1 < w1.heap.size + 1 := by omega
    have hins : ins k rv l = l.take (cnt k l) ++ (k, rv) :: l.drop (cnt k l) := by
      rw [ins_eq]
      congr 2
      have := Hfd.out
      unfold found at this
      rw [decide_eq_false_iff_not] at this
      rw [if_neg this]
    have hlen : (ins k rv l).length = cnt k l + 1 + (l.length - (cnt k l)) := by
      rw [hins]
      simp only [List.length_append, List.length_take, List.length_cons, List.length_drop]
      omega
    have hkeys : (ins k rv l).map (fun p => Value.string p.1) = List.take (cnt k l) (l.map fun p => Value.string p.1) ++ [Value.string k] ++ List.drop (cnt k l) (l.map fun p => Value.string p.1) := by
      rw [hins]
      simp
    refine ⟨_, _, w1.heap.size + 1, rfl, ((((((st6.below.setCell hb2 _).setCell hb2 _).setCell hb2 _).setCell hb2 _).setCell hb2 _).setCell hb2 _), by omega, ?_, ?_⟩
    · rw [hlen, hkeys]
      exact ownsRow_setCell_below (ownsRow_setCell_below (ownsRow_setCell_below (ownsRow_setCell_below (ownsRow_setCell_below (ownsRow_setCell_below st6.K hlt2 _) hlt2 _) hlt2 _) hlt2 _) hlt2 _) hlt2 _
    · rw [hlen]
      have e1 : (if found k l = true then cnt k l + 1 else cnt k l) = (cnt k l) := by rw [Hfd.out]; rfl
      rw [e1]
      exact ownsRow_setCell_below (ownsRow_setCell_below (ownsRow_setCell_below (ownsRow_setCell_below (ownsRow_setCell_below (ownsRow_setCell_below st6.L hlt2 _) hlt2 _) hlt2 _) hlt2 _) hlt2 _) hlt2 _
  · have hd0 := hdec hfd
    have Hfd := hide hfd
    clear hfd hdec
    obtain ⟨d, hdd⟩ : ∃ d : Nat, d = cnt k l + 1 := ⟨_, rfl⟩
    have hd1 : d ≤ l.length := by omega
    have hd2 : (d : Int) ≤ (l.length : Int) := by omega
    have hd3 : (d : Int) ≤ (kc : Int) := by omega
    have hd4 : (d : Int) ≤ (lc : Int) := by omega
    have hd5 : (0 : Int) ≤ (d : Int) := Int.natCast_nonneg _
    have hd6 : (cnt k l : Int) + 1 = (d : Int) := by omega
    have Hdd := hide hdd
    clear hdd
    go_wp2
    clear p4 p5 e4 e5
    generalize hW2 : (w5.setCell ⟨w1.heap.size, 5, none⟩ (.slice lA2 (cnt k l + 1) lc2)) = W2 at st4 ⊢
    clear hW2
    -- the keys behind k
    obtain ⟨m4, m5, o4, o5, mlt, olt⟩ := st4.reads
    refine wp_region_still_tail 6 (by kernel_rfl) (by kernel_rfl) ?_
    change wpStill _ _ (World.drew _) (fun a' => wpList _ _ _ _ a' (World.drew _)) _ _
    simp only [List.take_succ_cons, List.take_zero, List.drop_succ_cons, List.drop_zero]
    repeat still_step
    refine wpStill_nil ?_
    clear m4 m5 o4 o5 mlt olt
    refine wpList_append_row _ rfl (.tmp 49) (.tmp 53) 23 rfl (w1.heap.size + 1) 9 i9 _ 1 16 Try.underlying23 hi9 hz9 hs9 hb9 rfl (by omega) (.slice kA2 (cnt k l + 1) kc2) (cnt k l + 1) _ rfl st4.drew.K F _ _ _
      ((l.map fun p => Value.string p.1).drop (d)) rfl (by have := (HR.out.drop (m := d) (by omega) hkc).keeps (st4.drew.old HF.out); simpa only [Nat.mul_one] using this) (H1.out.2.1 _) (by have := HB.out.1; omega) (by omega) (by have := st4.O.lt; simp; omega) ?_
    intro kv3 w6 hown6 hg6 _
    obtain ⟨kA3, kc3, rfl, hk5, hk5'⟩ := own_form hown6
    obtain ⟨p4, p5, e4, e5⟩ := st4.drew.stores hg6 (fun g e => (st4.drew.K.lt g e).1)
    have st5 := st4.drew.keys hg6 hown6
    clear hg6 hown6 st4
    generalize (if kc = d then KA else Option.map (fun x => x.add (d)) KA) = KX
    go_wp2
    clear p4 p5 e4 e5
    generalize hW3 : (w6.setCell ⟨w1.heap.size, 4, none⟩ _) = W3 at st5 ⊢
    clear hW3
    -- the values behind k
    obtain ⟨m4, m5, o4, o5, mlt, olt⟩ := st5.reads
    refine wp_region_still_tail 6 (by kernel_rfl) (by kernel_rfl) ?_
    change wpStill _ _ (World.drew _) (fun a' => wpList _ _ _ _ a' (World.drew _)) _ _
    simp only [List.take_succ_cons, List.take_zero, List.drop_succ_cons, List.drop_zero]
    repeat still_step
    refine wpStill_nil ?_
    clear m4 m5 o4 o5 mlt olt
    refine wpList_append_row _ rfl (.tmp 57) (.tmp 61) 24 rfl (w1.heap.size + 1) 26 i26 _ 6 88 Try.underlying24 hi26 hz26 hs26 hb26 rfl (by omega) (.slice lA2 (cnt k l + 1) lc2) (cnt k l + 1) _ rfl st5.drew.L F _ _ _
      (xs.drop (d * 6)) rfl ((HX.out.drop (m := d) (by omega) hlc).keeps (st5.drew.old HF.out)) (fun u hu => H1.out.2.2.1 u (List.mem_of_mem_drop hu)) (by have := HB.out.2; omega) (by omega) (by have := st5.O.lt; simp; omega) ?_
    intro lv3 w7 hown7 hg7 _
    obtain ⟨lA3, lc3, rfl, hk6, hk6'⟩ := own_form hown7
    obtain ⟨p4, p5, e4, e5⟩ := st5.drew.stores hg7 (fun g e => (st5.drew.L.lt g e).1)
    have O7 := st5.drew.O.grown hg7 (fun e => by have := (st5.drew.L.lt _ e.symm).1; omega)
    have R7 := st5.drew.R.grown hg7 (fun e => by have := (st5.drew.L.lt _ e.symm).1; omega)
    have st6 := st5.drew.vals hg7 hown7
    clear hg7 hown7 st5
    have h9 := st6.O
    have h8 := st6.R
    generalize (if lc = d then LA else Option.map (fun x => x.add (d * 6)) LA) = LX
    have rb : w.heap.size + 2 = w.heap.size + 1 + 1 := rfl
    rw [rb] at h8
    have HFIN := hide (And.intro h8 st6)
    obtain ⟨a0, a1, a2, a3, r0, r1, r2, r3, r4, r5⟩ : w7.cell? ⟨w1.heap.size, 0, none⟩ = some (.int .i64 6) ∧ w7.cell? ⟨w1.heap.size, 1, none⟩ = some (.int .i64 0) ∧ w7.cell? ⟨w1.heap.size, 2, none⟩ = some (.float .f64 0) ∧ w7.cell? ⟨w1.heap.size, 3, none⟩ = some (.string ⟨#[]⟩) ∧
        w7.cell? ⟨w.heap.size + 1 + 1, 0, none⟩ = some (.int .i64 0) ∧ w7.cell? ⟨w.heap.size + 1 + 1, 1, none⟩ = some (.int .i64 0) ∧ w7.cell? ⟨w.heap.size + 1 + 1, 2, none⟩ = some (.float .f64 0) ∧ w7.cell? ⟨w.heap.size + 1 + 1, 3, none⟩ = some (.string ⟨#[]⟩) ∧
        w7.cell? ⟨w.heap.size + 1 + 1, 4, none⟩ = some (.slice none 0 0) ∧ w7.cell? ⟨w.heap.size + 1 + 1, 5, none⟩ = some (.slice none 0 0) :=
      ⟨by simpa using O7.cell 0, by simpa using O7.cell 1, by simpa using O7.cell 2, by simpa using O7.cell 3, by simpa using R7.cell 0, by simpa using R7.cell 1, by simpa using R7.cell 2, by simpa using R7.cell 3, by simpa using R7.cell 4, by simpa using R7.cell 5⟩
    have fr7 : ∀ i, w7.frozen? ⟨w.heap.size + 1 + 1, i, none⟩ = false := fun i => R7.free i
    have hne : ¬ w1.heap.size = w.heap.size + 1 + 1 := by omega
    have hne' : ¬ w.heap.size + 1 + 1 = w1.heap.size := by omega
    clear O7 R7 h9 h8 st6
    go_wp2
    obtain ⟨h8, st6⟩ := HFIN.out
    refine bodyPost_ret (results_cell_row rfl _ _ (w.heap.size + 1 + 1) 26 #[.int .i64 6, .int .i64 0, .float .f64 0, .string ⟨#[]⟩, .slice kA3 (cnt k l + 1 + (l.length - d)) kc3, .slice lA3 (cnt k l + 1 + (l.length - d)) lc3] (0, 0) _ rfl (show Bk _ (w.heap.size + 1 + 1) 26 _ from by simpa using ((((((h8.set_ 0 _).set_ 1 _).set_ 2 _).set_ 3 _).set_ 4 _).set_ 5 _)) Try.underlying26 rfl (by kernel_rfl)) rfl ?_
    have hb2 : w.heap.size ≤ w.heap.size + 1 + 1 := by omega
    have hlt2 : w.heap.size + 1 + 1 < w1.heap.size + 1 := by omega
    have hins : ins k rv l = l.take (cnt k l) ++ (k, rv) :: l.drop (d) := by
      rw [ins_eq]
      congr 2
      have := Hfd.out
      unfold found at this
      rw [decide_eq_true_iff] at this
      rw [if_pos this, Hdd.out]
    have hlen : (ins k rv l).length = cnt k l + 1 + (l.length - d) := by
      rw [hins]
      simp only [List.length_append, List.length_take, List.length_cons, List.length_drop]
      omega
    have hkeys : (ins k rv l).map (fun p => Value.string p.1) = List.take (cnt k l) (l.map fun p => Value.string p.1) ++ [Value.string k] ++ List.drop (d) (l.map fun p => Value.string p.1) := by
      rw [hins]
      simp
    refine ⟨_, _, w1.heap.size + 1, rfl, ((((((st6.below.setCell hb2 _).setCell hb2 _).setCell hb2 _).setCell hb2 _).setCell hb2 _).setCell hb2 _), by omega, ?_, ?_⟩
    · rw [hlen, hkeys]
      exact ownsRow_setCell_below (ownsRow_setCell_below (ownsRow_setCell_below (ownsRow_setCell_below (ownsRow_setCell_below (ownsRow_setCell_below st6.K hlt2 _) hlt2 _) hlt2 _) hlt2 _) hlt2 _) hlt2 _
    · rw [hlen]
      have e1 : (if found k l = true then cnt k l + 1 else cnt k l) = d := by rw [Hfd.out, Hdd.out]; rfl
      rw [e1]
      exact ownsRow_setCell_below (ownsRow_setCell_below (ownsRow_setCell_below (ownsRow_setCell_below (ownsRow_setCell_below (ownsRow_setCell_below st6.L hlt2 _) hlt2 _) hlt2 _) hlt2 _) hlt2 _) hlt2 _

end Go.Proofs.Ytekaainjpddklaa
