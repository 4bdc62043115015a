/-
  impl.MapHas, impl.MapGet, impl.MapDelete; laws.wMap, laws.wSame.
-/
import Derived.Test.YtekaainjpddklaaSep
import Derived.Test.YtekaainjpddklaaSame
import Derived.Test.YtekaainjpddklaaMapping
import Derived.Test.YtekaainjpddklaaFldsP
import Derived.Test.YtekaainjpddklaaField
set_option linter.unusedVariables false
set_option linter.unusedSimpArgs false
namespace Go.Proofs.Ytekaainjpddklaa
open Go.RowKit
theorem meth_Get (n : Nat) (v : Value) (w : World) : (method (n + 1) 281 v "Get").run Try.prog w = .ok (194, v) w := by kernel_rfl
theorem meth_Delete (n : Nat) (v : Value) (w : World) : (method (n + 1) 281 v "Delete").run Try.prog w = .ok (190, v) w := by kernel_rfl
attribute [local go_sem] run_store_float run_load_k meth_AsMap meth_Has meth_Get meth_Delete

/-! plain -/
def delK (k : ByteArray) (l : List (ByteArray × T)) : List (ByteArray × T) := l.filter fun p => decide (p.1 ≠ k)
theorem delK_keys (k : ByteArray) (l : List (ByteArray × T)) : (delK k l).map Prod.fst = (l.map Prod.fst).filter fun x => decide (x ≠ k) := by
  unfold delK
  induction l with
  | nil => rfl
  | cons p r ih =>
    simp only [List.filter_cons, List.map_cons]
    by_cases h : p.1 = k <;> simp [h] <;> simpa using ih
theorem delK_sorted {k : ByteArray} {l : List (ByteArray × T)} (h : Sorted l) : Sorted (delK k l) := List.Pairwise.sublist List.filter_sublist h
theorem delK_getT_self (k : ByteArray) (l : List (ByteArray × T)) : getT (delK k l) k = none := by
  rw [getT_none, delK_keys]
  simp
theorem delK_getT {k j : ByteArray} (l : List (ByteArray × T)) (h : j ≠ k) : getT (delK k l) j = getT l j := by
  unfold delK
  induction l with
  | nil => rfl
  | cons p r ih =>
    obtain ⟨x, t⟩ := p
    by_cases hx : x = k
    · rw [List.filter_cons_of_neg (by simpa using hx), ih, getT_cons, if_neg (by rw [hx]; exact fun e => h e.symm)]
    · rw [List.filter_cons_of_pos (by simpa using hx), getT_cons, getT_cons, ih]
theorem delK_id {k : ByteArray} {l : List (ByteArray × T)} (h : getT l k = none) : delK k l = l := by
  rw [getT_none] at h
  unfold delK
  rw [List.filter_eq_self]
  intro p hp
  rw [decide_eq_true_iff]
  rintro rfl
  exact h (List.mem_map.2 ⟨p, hp, rfl⟩)
theorem map_ws (r : RV) : (T.map r.flds).WS := by
  refine .map (flds_sorted r) fun k t h => ?_
  obtain ⟨kd, n, f, s, keys, l⟩ := r
  have := mapOf_mem _ _ _ h
  obtain ⟨r, _, e⟩ := List.mem_map.1 this
  have e : r.tree = t := e
  rw [← e]
  exact tree_ws r
theorem delK_ws {k : ByteArray} {l : List (ByteArray × T)} (h : (T.map l).WS) : (T.map (delK k l)).WS := by
  cases h with
  | map hs hi => exact .map (delK_sorted hs) fun j t hj => hi j t (List.mem_filter.1 hj).1

/-! the methods -/
set_option maxRecDepth 100000 in
theorem getM_calls {r : Nat} {l : List (ByteArray × T)} {val : ByteArray → Value} {F : Nat → Prop} {w : World} (h : MapAt F w r l val) (hF : ∀ b, F b → b < w.heap.size) (k : ByteArray) :
    Calls Try.prog 194 #[.map (some r), .string k] w fun e w' => (∃ v, e = .returned (.tuple #[v, .bool (getT l k).isSome]) ∧ ItemV w' (getT l k) v) ∧ Below w.heap.size w w' := by
  have hb0 : Below w.heap.size w (w.alloc (.cells #[] 180)) := (Below.refl _ _).alloc (Nat.le_refl _) _
  have h' := h.below hF hb0
  have hF' : ∀ b, F b → b < (w.alloc (.cells #[] 180)).heap.size := fun b hb => Nat.lt_of_lt_of_le (hF b hb) hb0.size
  have hcall : ∀ pa, Calls Try.prog 195 #[.map (some r), .iface 178 (.pointer (some pa)), .string k] (w.alloc (.cells #[] 180)) fun e w' => (∃ v, e = .returned (.tuple #[v, .bool (getT l k).isSome]) ∧ ItemV w' (getT l k) v) ∧ Below (w.alloc (.cells #[] 180)).heap.size (w.alloc (.cells #[] 180)) w' := by
    intro pa
    cases hg : getT l k with
    | none =>
      refine (mapGet_none h'.is_ k (getT_none.1 hg) pa).mono ?_
      rintro e w' ⟨rfl, rfl⟩
      exact ⟨⟨_, rfl, rfl⟩, Below.refl _ _⟩
    | some t =>
      have hm := getT_mem hg
      have hi := h'.items k t hm
      refine (mapGet_calls h'.is_ k (List.mem_map.2 ⟨_, hm, rfl⟩) pa hi).mono ?_
      rintro e w' ⟨rfl, rfl⟩
      refine ⟨⟨_, rfl, _, val k, rfl, by simp [Old], Bk.new _ _ _, ?_⟩, (Below.refl _ _).alloc (Nat.le_refl _) _⟩
      exact (hi.keeps (Keeps.alloc _ _ hF')).mono fun b hb => Nat.lt_of_lt_of_le (hF' b hb) (by simp)
  have Hc := hide hcall
  obtain ⟨o, ho⟩ : ∃ o, getT l k = o := ⟨_, rfl⟩
  rw [ho] at Hc ⊢
  have Hb0 := hide hb0
  clear h h' hF hF' hb0 hcall ho
  go_enter Try.func194, Try.ntmps194
  go_wp2_with fail
  refine (Hc.out _).mono ?_
  rintro e w1 ⟨⟨v, rfl, hv⟩, hb1⟩
  have Hfin := hide (And.intro hv (Hb0.out.trans (hb1.mono Hb0.out.size)))
  clear hv hb1
  go_wp2
  go_ret2
  exact ⟨⟨v, rfl, Hfin.out.1⟩, Hfin.out.2⟩

set_option maxRecDepth 100000 in
theorem deleteM_calls {r : Nat} {ks ks' : List ByteArray} {val : ByteArray → Value} {w : World} (h : MapIs w r ks val) (k : ByteArray) (hn : ks'.Nodup) (hm : ∀ x, x ∈ ks' ↔ x ∈ ks ∧ x ≠ k) :
    Calls Try.prog 190 #[.map (some r), .string k] w fun e w' => e = .returned (.tuple #[]) ∧ MapIs w' r ks' val ∧ w.grownBy w' (some r) ∧ w'.heap.size = w.heap.size := by
  obtain ⟨w', hrun, h1, h2, h3⟩ := h.delete (P := Try.prog) Try.underlying281 Try.underlying9 k 0 ks' hn hm
  have Hfin := hide (And.intro h1 (And.intro h2 h3))
  clear h h1 h2 h3 hn hm
  go_enter Try.func190, Try.ntmps190
  go_wp2
  go_end0
  exact ⟨rfl, Hfin.out⟩

/-! the thin package -/
set_option maxRecDepth 100000 in
theorem implHas_calls (rv : RV) (k : ByteArray) (w : World) (cs : List Value) (h : RVAt (Old w) w rv cs) : Calls Try.prog 32 #[.agg cs.toArray, .string k] w (EqPost (getT rv.flds k).isSome w) := by
  have H := hide fun (W : World) (hb : Below w.heap.size w W) => toMapping_calls rv W _ (h.at_ hb)
  have hs := flds_sorted rv
  generalize rv.flds = l at *
  have Hb : Hid ((getT l k).isSome = hasK k (l.map Prod.fst)) := hide (by rw [Bool.eq_iff_iff, hasK_iff, getT_some_iff])
  generalize (getT l k).isSome = bb at *
  obtain ⟨x0, x1, x2, x3, xA, xn, xc, yA, yn, yc, rfl⟩ := h.form
  clear h hs
  go_enter Try.func32, Try.ntmps32
  go_wp2_with fail
  have hb0 : Below w.heap.size w (w.alloc (.cells #[.int .i64 x0, .int .i64 x1, .float .f64 x2, .string x3, .slice xA xn xc, .slice yA yn yc] 26)) := (Below.refl _ _).alloc (Nat.le_refl _) _
  refine (H.out _ hb0).mono ?_
  rintro e w1 ⟨v, rfl, ⟨r, val, rfl, hm⟩, hb1⟩
  have Hm := hide (And.intro hm (hb0.trans (hb1.mono hb0.size)))
  clear hm hb1 hb0
  go_wp2_with fail
  have hc := mapHas_calls Hm.out.1.is_ k
  rw [← Hb.out] at hc
  refine hc.mono ?_
  rintro e w2 ⟨rfl, rfl⟩
  clear hc
  go_wp2
  go_ret
  exact ⟨rfl, Hm.out.2⟩

/-- what stands under a key, or nothing -/
def oTree (o : Option T) : T := match o with | none => .null | some t => t
/-- MapGet's answer -/
def GetIs (o : Option T) (w : World) (e : Ending) (w' : World) : Prop :=
  ∃ (d0 d1 : Int) (d2 : Nat) (d3 : ByteArray) (KA : Option Addr) (kl kc : Nat) (LA : Option Addr) (ll lc : Nat), e = .returned (.tuple #[.agg #[.int .i64 d0, .int .i64 d1, .float .f64 d2, .string d3, .slice KA kl kc, .slice LA ll lc], .bool o.isSome]) ∧
    RVAt (Fr w.heap.size w') w' (oTree o).toRV [.int .i64 d0, .int .i64 d1, .float .f64 d2, .string d3, .slice KA kl kc, .slice LA ll lc] ∧ Below w.heap.size w w'

theorem fromItem_calls {o : Option T} {v : Value} {w : World} (h : ItemV w o v) : Calls Try.prog 76 #[v] w (GivesRV (fun _ => False) (oTree o).toRV w) := by
  cases o with
  | none =>
    have e : v = .nilIface := h
    subst e
    exact fromValue_nil w
  | some t => exact fromValue_calls h

theorem get_ret {fn : Func} {p q : Tmp} (hfn : fn.results = #[.cell p 26, .tmp q]) (tmps : Array Value) {o : Option T} {w w1 : World} {kind n' : Int} {f : Nat} {s : ByteArray} {KA : Option Addr} {kl kc : Nat} {LA : Option Addr} {ll lc : Nat} {a0 a1 a2 a3 a4 a5 : Value}
    (hv : RVAt (fun b => w.heap.size + 2 ≤ b ∧ b < w1.heap.size) w1 (oTree o).toRV [.int .i64 kind, .int .i64 n', .float .f64 f, .string s, .slice KA kl kc, .slice LA ll lc]) (hR : Bk w1 (w.heap.size + 1) 26 #[a0, a1, a2, a3, a4, a5]) (hb : Below w.heap.size w w1)
    (hp : tmps.getD p undef = .pointer (some ⟨w.heap.size + 1, 0, none⟩)) (hq : tmps.getD q undef = .bool o.isSome) :
    bodyPost Try.prog fn (GetIs o w) .ret { tmps := tmps, defers := [] } (set6 w1 (w.heap.size + 1) (.int .i64 kind) (.int .i64 n') (.float .f64 f) (.string s) (.slice KA kl kc) (.slice LA ll lc)) := by
  refine bodyPost_ret (results_cell_two hfn _ _ (w.heap.size + 1) 26 #[.int .i64 kind, .int .i64 n', .float .f64 f, .string s, .slice KA kl kc, .slice LA ll lc] (0, 0) _ (.bool o.isSome) hp hq (set6_same _ _ _ _ _ _ hR) Try.underlying26 rfl (by kernel_rfl)) rfl ?_
  refine ⟨kind, n', f, s, KA, kl, kc, LA, ll, lc, rfl, ?_, set6_below _ _ _ _ _ _ hb (by omega)⟩
  exact (hv.keeps fun b hb => set6_heap _ _ _ _ _ _ _ _ _ (by have := hb.1; omega)).mono fun b hb => ⟨by have := hb.1; omega, by rw [set6_size]; exact hb.2⟩

set_option maxRecDepth 100000 in
set_option maxHeartbeats 1000000 in
theorem implGet_calls (rv : RV) (k : ByteArray) (w : World) (cs : List Value) (h : RVAt (Old w) w rv cs) : Calls Try.prog 35 #[.agg cs.toArray, .string k] w (GetIs (getT rv.flds k) w) := by
  have H := hide fun (W : World) (hb : Below w.heap.size w W) => toMapping_calls rv W _ (h.at_ hb)
  generalize rv.flds = l at *
  obtain ⟨o, ho⟩ : ∃ o, getT l k = o := ⟨_, rfl⟩
  rw [ho]
  have Ho := hide ho
  obtain ⟨x0, x1, x2, x3, xA, xn, xc, yA, yn, yc, rfl⟩ := h.form
  clear h ho
  go_enter Try.func35, Try.ntmps35
  go_wp2_with fail
  have hb0 := below_two w (.cells #[.int .i64 x0, .int .i64 x1, .float .f64 x2, .string x3, .slice xA xn xc, .slice yA yn yc] 26) (.cells #[.int .i64 0, .int .i64 0, .float .f64 0, .string ⟨#[]⟩, .slice none 0 0, .slice none 0 0] 26)
  have hR := Bk.new (w.alloc (.cells #[.int .i64 x0, .int .i64 x1, .float .f64 x2, .string x3, .slice xA xn xc, .slice yA yn yc] 26)) 26 #[.int .i64 0, .int .i64 0, .float .f64 0, .string ⟨#[]⟩, .slice none 0 0, .slice none 0 0]
  rw [World.size_alloc] at hR
  generalize World.alloc _ _ = W at hb0 hR ⊢
  refine (H.out _ hb0).mono ?_
  rintro e w1 ⟨v, rfl, ⟨r, val, rfl, hm⟩, hb1⟩
  have Hm := hide (And.intro hm (And.intro (hb0.trans (hb1.mono hb0.size)) (hR.below hb1 hR.lt)))
  have hW1 := hb0.size
  have hsW : w.heap.size + 2 ≤ W.heap.size := hR.lt
  clear hm hb1 hb0 hR
  go_wp2_with fail
  refine (getM_calls Hm.out.1 (fun b hb => hb.2) k).mono ?_
  rintro e w2 ⟨⟨v, rfl, hv⟩, hb2⟩
  have Hv := hide (And.intro hv (And.intro (Hm.out.2.1.trans (hb2.mono Hm.out.2.1.size)) (Hm.out.2.2.below hb2 Hm.out.2.2.lt)))
  have hl1 := Hm.out.2.2.lt
  have hl2 := hb2.size
  rw [Ho.out] at Hv ⊢
  have Hitem := hide (fromItem_calls Hv.out.1)
  clear hv hb2
  go_wp2_with fail
  refine Hitem.out.mono ?_
  rintro e w3 ⟨cs, rfl, hcc, hb3⟩
  have hR3 := Hv.out.2.2.below hb3 Hv.out.2.2.lt
  have hbw := Hv.out.2.1.trans (hb3.mono Hv.out.2.1.size)
  obtain ⟨d0, d1, d2, d3, dA, dn, dc, eA, en, ec, rfl⟩ := hcc.form
  have hcc' := hcc.mono (G := fun b => w.heap.size + 2 ≤ b ∧ b < w3.heap.size) fun b hb => hb.elim (fun h => h.elim) fun h => ⟨by have := h.1; omega, h.2⟩
  obtain ⟨p0, p1, p2, p3, p4, p5⟩ := Bx.of hR3
  have fz : ∀ i, w3.frozen? ⟨w.heap.size + 1, i, none⟩ = false := fun i => hR3.free i
  have Hfin := hide (And.intro hcc' (And.intro hR3 hbw))
  clear hcc hcc' hR3 hbw hb3
  go_wp2
  exact get_ret rfl _ Hfin.out.1 Hfin.out.2.1 Hfin.out.2.2 rfl rfl

theorem delK_length (k : ByteArray) (l : List (ByteArray × T)) : (delK k l).length ≤ l.length := List.length_filter_le _ _

/-- a map from which a key was deleted -/
theorem del_any {F : Nat → Prop} {w w3 w4 : World} {l : List (ByteArray × T)} {r : Nat} {k : ByteArray} {val : ByteArray → Value} (h2 : Sorted l) (h3 : l.length * 88 ≤ R47) (h4 : ∀ p ∈ l, p.1.size ≤ R47) (hi : ∀ k t, (k, t) ∈ l → AnyAt (fun b => F b ∧ b ≠ r) w t (val k)) (hF : ∀ b, F b → b < w.heap.size) (hrl : r < w.heap.size)
    (hb : Below w.heap.size w w3) (hg : w3.grownBy w4 (some r)) (hm : MapIs w4 r ((delK k l).map Prod.fst) val) : AnyAt (Old w4) w4 (.map (delK k l)) (.iface 126 (.map (some r))) := by
  have s1 := hb.size
  have s2 := hg.size
  have hl := delK_length k l
  refine .map (by unfold R47 at *; omega) (fun p hp => h4 p (List.mem_filter.1 hp).1) (delK_sorted h2) hm.lt hm fun j t ht => ?_
  refine ((hi j t (List.mem_filter.1 ht).1).keeps (w' := w4) fun b hb' => ?_).mono fun b hb' => ?_
  · have := hF b hb'.1
    rw [hg.block b (by omega) (fun e => hb'.2 (Option.some.inj e)), hb.block b this]
  · have := hF b hb'.1
    show b < w4.heap.size
    omega

set_option maxRecDepth 100000 in
set_option maxHeartbeats 1000000 in
theorem implDelete_calls (rv : RV) (k : ByteArray) (w : World) (cs : List Value) (h : RVAt (Old w) w rv cs) : Calls Try.prog 31 #[.agg cs.toArray, .string k] w (GivesRV (fun _ => False) (T.map (delK k rv.flds)).toRV w) := by
  have H := fun (W : World) (hb : Below w.heap.size w W) => plainMap_calls rv W _ (h.at_ hb)
  rw [RV.fieldsOf_eq] at H
  have H := hide H
  generalize rv.flds = l at *
  obtain ⟨x0, x1, x2, x3, xA, xn, xc, yA, yn, yc, rfl⟩ := h.form
  clear h
  go_enter Try.func31, Try.ntmps31
  go_wp2_with fail
  have hb0 := below_two w (.cells #[.int .i64 x0, .int .i64 x1, .float .f64 x2, .string x3, .slice xA xn xc, .slice yA yn yc] 26) (.cells #[.int .i64 0, .int .i64 0, .float .f64 0, .string ⟨#[]⟩, .slice none 0 0, .slice none 0 0] 26)
  have hR := Bk.new (w.alloc (.cells #[.int .i64 x0, .int .i64 x1, .float .f64 x2, .string x3, .slice xA xn xc, .slice yA yn yc] 26)) 26 #[.int .i64 0, .int .i64 0, .float .f64 0, .string ⟨#[]⟩, .slice none 0 0, .slice none 0 0]
  rw [World.size_alloc] at hR
  generalize World.alloc _ _ = W at hb0 hR ⊢
  have hsW : w.heap.size + 2 ≤ W.heap.size := hR.lt
  refine (H.out _ hb0).mono ?_
  rintro e w1 ⟨r, rfl, hu, hb1⟩
  obtain ⟨val, hm, hs, h88, hks, hrF, hit⟩ := hu.items
  have hrl := hrF.1
  have Hm := hide (And.intro hm (And.intro hs (And.intro h88 (And.intro hks (And.intro hrF hit)))))
  have Hu := hide hu
  have Hb := hide (And.intro (hb0.trans (hb1.mono hb0.size)) (hR.below hb1 hR.lt))
  clear hu hm hs h88 hks hrF hit hb0 hR hb1
  go_wp2_with fail
  refine (newValue_calls Hu.out w1).mono ?_
  rintro e w2 ⟨rfl, hw2⟩
  have hq : w2.cell? ⟨w1.heap.size + 1, 0, none⟩ = some (.iface 126 (.map (some r))) := by
    rw [← hw2]
    have := (Bk.new (w1.alloc (.cells #[] 180)) 217 #[.iface 126 (.map (some r))]).cell 0
    simp only [World.size_alloc] at this
    exact this
  have Hb2 := hide (show Below w1.heap.size w1 w2 by rw [← hw2]; exact below_two _ _ _)
  clear hw2
  go_wp2_with fail
  refine (AsMap_calls r w2).mono ?_
  rintro e w3 ⟨rfl, hb3⟩
  have Hb3 := hide (Hb2.out.trans (hb3.mono Hb2.out.size))
  have hm3 := Hm.out.1.keep (w' := w3) (Hb3.out.block _ Hm.out.2.2.2.2.1.2)
  have hdel := deleteM_calls hm3 k (ks' := (delK k l).map Prod.fst) (sorted_nodup (delK_sorted Hm.out.2.1)) (fun x => by rw [delK_keys, List.mem_filter]; simp)
  have Hdel := hide hdel
  clear hb3 hm3 hdel hq
  go_wp2_with fail
  refine Hdel.out.mono ?_
  rintro e w4 ⟨rfl, hm4, hg4, hz4⟩
  have hany := del_any Hm.out.2.1 Hm.out.2.2.1 Hm.out.2.2.2.1 Hm.out.2.2.2.2.2 (fun b hb => hb.2) Hm.out.2.2.2.2.1.2 Hb3.out hg4 hm4
  have Hcall := hide (fromTree_calls (T.map (delK k l)) w4 _ hany)
  have hs13 := Hb3.out.size
  have hR4 : Bk w4 (w.heap.size + 1) 26 #[.int .i64 0, .int .i64 0, .float .f64 0, .string ⟨#[]⟩, .slice none 0 0, .slice none 0 0] := (Hb.out.2.below Hb3.out Hb.out.2.lt).grown hg4 (fun e => by have := Option.some.inj e; omega)
  have hbw4 : Below w.heap.size w w4 := (Hb.out.1.trans (Hb3.out.mono Hb.out.1.size)).grown hg4 (by have := Hb.out.1.size; omega) (fun g e => by have := Option.some.inj e; omega)
  have H4 := hide (And.intro hR4 hbw4)
  have Hz4 := hide hz4
  clear hm4 hg4 hany hR4 hbw4 hz4
  go_wp2_with fail
  refine Hcall.out.mono ?_
  rintro e w5 ⟨ccs, rfl, hcc, hb5⟩
  have hR5 := H4.out.1.below hb5 H4.out.1.lt
  have hbw := H4.out.2.trans (hb5.mono H4.out.2.size)
  have hl4 := H4.out.1.lt
  obtain ⟨d0, d1, d2, d3, dA, dn, dc, eA, en, ec, rfl⟩ := hcc.form
  have hcc' := hcc.mono (G := fun b => w.heap.size + 2 ≤ b ∧ b < w5.heap.size) fun b hb => hb.elim (fun h => h.elim) fun h => ⟨by have := h.1; omega, h.2⟩
  obtain ⟨p0, p1, p2, p3, p4, p5⟩ := Bx.of hR5
  have fz : ∀ i, w5.frozen? ⟨w.heap.size + 1, i, none⟩ = false := fun i => hR5.free i
  have Hfin := hide (And.intro hcc' (And.intro hR5 hbw))
  clear hcc hcc' hR5 hbw hb5
  go_wp2
  exact clean_ret rfl _ Hfin.out.2.1 Hfin.out.2.2 rfl Hfin.out.1 rfl

/-! the law's own -/
set_option maxRecDepth 100000 in
set_option maxHeartbeats 1000000 in
theorem wMap_calls (kd n : Int) (f : Nat) (s : ByteArray) (keys : List ByteArray) (l : List RV) (w : World) (cs : List Value) (h : RVAt (Old w) w (.mk kd n f s keys l) cs) : Calls Try.prog 34 #[.agg cs.toArray] w (GivesRV (fun _ => False) (T.map (RV.mk kd n f s keys l).flds).toRV w) := by
  obtain ⟨x0, x1, x2, x3, xA, xn, xc, yA, yn, yc, rfl⟩ := h.form
  have g := h.kind6
  have H := fun (W : World) (hb : Below w.heap.size w W) => clean_calls (.mk 6 n f s keys l) W _ (g.at_ hb)
  have e : (RV.mk 6 n f s keys l).tree = T.map (RV.mk kd n f s keys l).flds := by simp [RV.tree, RV.flds, treeL_eq]
  rw [e] at H
  have H := hide H
  generalize (T.map (RV.mk kd n f s keys l).flds).toRV = rr at *
  clear h g e
  go_enter Try.func34, Try.ntmps34
  go_wp2_with fail
  have hb0 := below_two w (.cells #[.int .i64 6, .int .i64 x1, .float .f64 x2, .string x3, .slice xA xn xc, .slice yA yn yc] 26) (.cells #[.int .i64 0, .int .i64 0, .float .f64 0, .string ⟨#[]⟩, .slice none 0 0, .slice none 0 0] 26)
  have hR := Bk.new (w.alloc (.cells #[.int .i64 6, .int .i64 x1, .float .f64 x2, .string x3, .slice xA xn xc, .slice yA yn yc] 26)) 26 #[.int .i64 0, .int .i64 0, .float .f64 0, .string ⟨#[]⟩, .slice none 0 0, .slice none 0 0]
  rw [World.size_alloc] at hR
  generalize World.alloc _ _ = W at hb0 hR ⊢
  have hsW : w.heap.size + 2 ≤ W.heap.size := hR.lt
  refine (H.out _ hb0).mono ?_
  rintro e w5 ⟨ccs, rfl, hcc, hb5⟩
  have hR5 := hR.below hb5 hR.lt
  have hbw := hb0.trans (hb5.mono hb0.size)
  obtain ⟨d0, d1, d2, d3, dA, dn, dc, eA, en, ec, rfl⟩ := hcc.form
  have hcc' := hcc.mono (G := fun b => w.heap.size + 2 ≤ b ∧ b < w5.heap.size) fun b hb => hb.elim (fun h => h.elim) fun h => ⟨by have := h.1; omega, h.2⟩
  obtain ⟨p0, p1, p2, p3, p4, p5⟩ := Bx.of hR5
  have fz : ∀ i, w5.frozen? ⟨w.heap.size + 1, i, none⟩ = false := fun i => hR5.free i
  have Hfin := hide (And.intro hcc' (And.intro hR5 hbw))
  clear hcc hcc' hR5 hbw hb5 hR hb0
  go_wp2
  exact clean_ret rfl _ Hfin.out.2.1 Hfin.out.2.2 rfl Hfin.out.1 rfl

set_option maxRecDepth 100000 in
set_option maxHeartbeats 1000000 in
theorem wSame_calls (r1 r2 : RV) (b : Bool) (ht : r1.tree = r2.tree) (w : World) (cs1 cs2 : List Value) (h1 : RVAt (Old w) w r1 cs1) (h2 : RVAt (Old w) w r2 cs2) : Calls Try.prog 36 #[.agg cs1.toArray, .bool b, .agg cs2.toArray, .bool b] w (EqPost true w) := by
  have H := hide fun (W : World) (hb : Below w.heap.size w W) => sameValue_calls r1 r2 ht W _ _ (h1.at_ hb) (h2.at_ hb)
  obtain ⟨x0, x1, x2, x3, xA, xn, xc, yA, yn, yc, rfl⟩ := h1.form
  obtain ⟨u0, u1, u2, u3, uA, un, uc, vA, vn, vc, rfl⟩ := h2.form
  clear h1 h2 ht
  cases b
  all_goals
    go_enter Try.func36, Try.ntmps36
    go_wp2_with fail
    have hb0 := below_two w (.cells #[.int .i64 x0, .int .i64 x1, .float .f64 x2, .string x3, .slice xA xn xc, .slice yA yn yc] 26) (.cells #[.int .i64 u0, .int .i64 u1, .float .f64 u2, .string u3, .slice uA un uc, .slice vA vn vc] 26)
    generalize World.alloc _ _ = W at hb0 ⊢
    refine (H.out _ hb0).mono ?_
    rintro e w3 ⟨rfl, hb3⟩
    have Hb3 := hide (hb0.trans (hb3.mono hb0.size))
    clear hb3 hb0
    go_wp2
    go_ret
    exact ⟨rfl, Hb3.out⟩

end Go.Proofs.Ytekaainjpddklaa
