/-
  Several texts in one: MapEq, EqAll.
-/
import Derived.Test.YtajeghkjppkhcaaOrder
import Derived.Test.YtajeghkjppkhcaaZip
import Derived.Test.YtajeghkjppkhcaaCz
import Derived.StillTailTactics
import Derived.Test.YtajeghkjppkhcaaListEq
import Derived.Test.YtajeghkjppkhcaaCmpD
import Derived.Test.YtajeghkjppkhcaaEqA
import Derived.Test.YtajeghkjppkhcaaEqB
set_option linter.unusedVariables false
set_option linter.unusedSimpArgs false
/-!
  EqualsUsing of the package's map.
-/

namespace Go.Proofs.Ytajeghkjppkhcaa
open Go.RowKit
attribute [local go_sem] run_store_float run_load_k meth_allocVu meth_Free meth_Length meth_IterateUsing

/-- the cells that the closure finds: the map, the allocator, the value, the pointer to it -/
structure EqCells (n r : Nat) (pa : Addr) (W : World) : Prop where
  m : Bk W n 149 #[.map (some r)]
  a : Bk W (n + 1) 83 #[.iface 72 (.pointer (some pa))]
  v : ∃ x, Bk W (n + 2) 103 #[x]
  p : Bk W (n + 3) 77 #[.pointer (some ⟨n + 2, 0, none⟩)]
theorem EqCells.keep {n r : Nat} {pa : Addr} {W W' : World} (h : EqCells n r pa W) (hk : ∀ b, b < W.heap.size → n ≤ b → b < n + 4 → W'.heap[b]? = W.heap[b]?) : EqCells n r pa W' := by
  obtain ⟨x, hx⟩ := h.v
  exact ⟨(hk _ h.m.lt (by omega) (by omega)).trans h.m, (hk _ h.a.lt (by omega) (by omega)).trans h.a, ⟨x, (hk _ hx.lt (by omega) (by omega)).trans hx⟩, (hk _ h.p.lt (by omega) (by omega)).trans h.p⟩
theorem EqCells.set_ {n r : Nat} {pa : Addr} {W : World} (h : EqCells n r pa W) (u : Value) : EqCells n r pa (W.setCell ⟨n + 2, 0, none⟩ u) := by
  obtain ⟨x, hx⟩ := h.v
  exact ⟨h.m.far (by simp) _, h.a.far (by simp) _, ⟨u, by simpa using hx.set_ 0 u⟩, h.p.far (by simp) _⟩

set_option maxRecDepth 100000 in
set_option maxHeartbeats 1000000 in
theorem meNone (n r : Nat) (pa : Addr) {ks : List ByteArray} {val : ByteArray → Value} (k : ByteArray) (v : Value) (W : World) (h : EqCells n r pa W) (hm : MapIs W r ks val) (hk : k ∉ ks) :
    Calls Try.prog 107 #[.string k, v, .pointer (some ⟨n, 0, none⟩), .pointer (some ⟨n + 1, 0, none⟩), .pointer (some ⟨n + 3, 0, none⟩)] W fun e w' => e = .returned (.bool false) ∧ W = w' := by
  have hl := (hm.lookup_no Try.underlying149 Try.underlying9 (z := .nilIface) (by kernel_rfl) k hk).1
  have q0 := h.m.cell 0
  simp at q0
  clear h hm
  go_enter Try.func107, Try.ntmps107
  go_wp2
  go_ret
  exact ⟨rfl, rfl⟩

/-- the cells that the closure's call loads -/
structure MeLoads (n : Nat) (pa : Addr) (W : World) : Prop where
  a : W.cell? ⟨n + 1, 0, none⟩ = some (.iface 72 (.pointer (some pa)))
  p : W.cell? ⟨n + 3, 0, none⟩ = some (.pointer (some ⟨n + 2, 0, none⟩))
theorem EqCells.loads {n r : Nat} {pa : Addr} {W : World} (h : EqCells n r pa W) : MeLoads n pa W := ⟨h.a.cell 0, h.p.cell 0⟩

set_option maxRecDepth 100000 in
set_option maxHeartbeats 1000000 in
theorem meSome (n r : Nat) (pa : Addr) {ks : List ByteArray} {val : ByteArray → Value} (k : ByteArray) (t1 t2 : T) (hok : EqvOK t1 t2) (v : Value) (W : World) (h : EqCells n r pa W) (hm : MapIs W r ks val) (hk : k ∈ ks) {F : Nat → Prop} (hF : ∀ b, F b → b < W.heap.size ∧ b ≠ n + 2) (h1 : AnyAt F W t1 (val k)) {G : Nat → Prop} (hG : ∀ b, G b → b < W.heap.size ∧ b ≠ n + 2) (h2 : ValAt G W t2 v) :
    Calls Try.prog 107 #[.string k, v, .pointer (some ⟨n, 0, none⟩), .pointer (some ⟨n + 1, 0, none⟩), .pointer (some ⟨n + 3, 0, none⟩)] W fun e w' => e = .returned (.bool (T.eqv t1 t2)) ∧ EqCells n r pa w' ∧ ButS (fun b => b = n + 2) W w' := by
  have hl := (hm.lookup_ok Try.underlying149 Try.underlying9 k hk).1
  have q0 := h.m.cell 0
  simp at q0
  generalize val k = u at hl h1
  obtain ⟨d, hd⟩ : ∃ d, T.eqv t1 t2 = d := ⟨_, rfl⟩
  rw [hd]
  have Hd := hide hd
  clear hd
  have Hok := hide hok
  obtain ⟨g2, u2, rfl, hg2, hB2, hu2⟩ := h2
  have Hh := hide h
  have H1 := hide h1
  have H2 := hide (show ValAt G W t2 (.iface 77 (.pointer (some ⟨g2, 0, none⟩))) from ⟨g2, u2, rfl, hg2, hB2, hu2⟩)
  have HF := hide hF
  have HG := hide hG
  have hsz : n + 2 < W.heap.size := by obtain ⟨x, hx⟩ := h.v; exact hx.lt
  clear h hm hok h1 hg2 hB2 hu2 hF hG
  have hone := H1.out.one.1
  go_enter Try.func107, Try.ntmps107
  go_wp2_with fail
  obtain ⟨x, hx⟩ := Hh.out.v
  have hS0 : MeLoads n pa W.drew := ⟨Hh.out.loads.a, Hh.out.loads.p⟩
  have hV1 : Bk W.drew (n + 2) 103 #[x] := hx
  generalize hS : MeLoads n pa = S at hS0
  refine wp_region_head 5 S (by rfl) (by kernel_rfl) ?_
  refine HT.take 0 (v := ?_) rfl (by kernel_rfl) (fun _ _ _ h => h) (Or.inl ⟨by rfl, ?_⟩) (by assumption) ?_
  rotate_left
  · intro W hSw; rw [← hS] at hSw; obtain ⟨s1, s2⟩ := hSw; go_simp; with_reducible rfl
  simp only [Act.put, List.setIfInBounds_toArray, List.set_cons_zero, List.set_cons_succ]
  refine HT.take 1 (v := ?_) rfl (by kernel_rfl) (fun _ _ _ h => h) (Or.inl ⟨by rfl, ?_⟩) (by assumption) ?_
  rotate_left
  · intro W hSw; rw [← hS] at hSw; obtain ⟨s1, s2⟩ := hSw; go_simp; with_reducible rfl
  simp only [Act.put, List.setIfInBounds_toArray, List.set_cons_zero, List.set_cons_succ]
  refine HT.take 2 (v := ?_) rfl (by kernel_rfl) (fun _ _ _ h => h) (Or.inl ⟨by rfl, ?_⟩) (by assumption) ?_
  rotate_left
  · intro W hSw; rw [← hS] at hSw; obtain ⟨s1, s2⟩ := hSw; go_simp; with_reducible rfl
  simp only [Act.put, List.setIfInBounds_toArray, List.set_cons_zero, List.set_cons_succ]
  refine HT.take 4 (v := ?_) rfl (by kernel_rfl) (fun _ _ _ h => h) (Or.inl ⟨by rfl, ?_⟩) (by assumption) ?_
  rotate_left
  · intro W hSw; rw [← hS] at hSw; obtain ⟨s1, s2⟩ := hSw; go_simp; with_reducible rfl
  simp only [Act.put, List.setIfInBounds_toArray, List.set_cons_zero, List.set_cons_succ]
  refine HT.one 3 rfl (by kernel_rfl) (by rfl) (fun K hK => ?_)
  go_simp
  refine (reuse_calls (n + 2) x H1.out W.drew hV1).mono ?_
  rintro e w1 ⟨rfl, hw1⟩
  have hW : EqCells n r pa w1 := by rw [← hw1]; exact EqCells.set_ (W := W.drew) (EqCells.keep Hh.out fun _ _ _ _ => rfl) u
  have hB1 : ButS (fun b => b = n + 2) W w1 := by rw [← hw1]; exact ⟨rfl, rfl, rfl, by simp, fun b _ hb => Below.heap_setCell W.drew _ _ _ hb⟩
  have hv1 : Bk w1 (n + 2) 103 #[u] := by rw [← hw1]; simpa using hV1.set_ 0 u
  go_simp
  refine hK.out _ _ (by rw [← hS]; exact hW.loads) ?_
  refine HT.done (by kernel_rfl) ?_
  simp only [List.drop_succ_cons, List.drop_zero]
  have Hw1 := hide (And.intro hW (And.intro hB1 hv1))
  clear hS0 hS hK hx hV1 hw1 hW hB1 hv1
  go_wp2_with fail
  have hk : Keeps F W w1 := fun b hb => Hw1.out.2.1.block b (HF.out b hb).1 (HF.out b hb).2
  have hk2 : Keeps G W w1 := fun b hb => Hw1.out.2.1.block b (HG.out b hb).1 (HG.out b hb).2
  have hs1 := Hw1.out.2.1.size
  have hcall := Hok.out w1 pa (.iface 77 (.pointer (some ⟨n + 2, 0, none⟩))) (.iface 77 (.pointer (some ⟨g2, 0, none⟩)))
    ⟨n + 2, u, rfl, Hw1.out.2.2.lt, Hw1.out.2.2, (H1.out.keeps hk).mono fun b hb => Nat.lt_of_lt_of_le (HF.out b hb).1 hs1⟩
    ((H2.out.keeps hk2).mono fun b hb => Nat.lt_of_lt_of_le (HG.out b hb).1 hs1)
  rw [Hd.out] at hcall
  refine hcall.mono ?_
  rintro e w2 ⟨rfl, hb2⟩
  have Hfin := hide (And.intro (Hw1.out.1.keep fun b hb _ _ => hb2.block b hb) (Hw1.out.2.1.trans (ButS.below (S := fun b => b = n + 2) hb2) fun _ _ h => h))
  clear hcall hb2 hk hk2 hs1
  go_wp2
  go_ret
  exact ⟨rfl, Hfin.out⟩

theorem getT_isSome {α : Type} {l : List (ByteArray × α)} {k : ByteArray} (h : k ∈ l.map Prod.fst) : ∃ t, getT l k = some t := by
  cases hg : getT l k with
  | none => exact absurd h (getT_none.1 hg)
  | some t => exact ⟨t, rfl⟩

/-- one step of the equality of two maps -/
theorem meStep {l1 l2 : List (ByteArray × T)} (hok : ∀ k a, (k, a) ∈ l1 → ∀ j b, (j, b) ∈ l2 → EqvOK a b) (n r : Nat) (pa : Addr) (k : ByteArray) (hk2 : k ∈ l2.map Prod.fst) {val : ByteArray → Value} {F : Nat → Prop} (v : Value) (W : World) (h : EqCells n r pa W) (hm : MapAt F W r l1 val)
    (hF : ∀ b, F b → b < W.heap.size ∧ b ≠ n + 2) {G : Nat → Prop} (hG : ∀ b, G b → b < W.heap.size ∧ b ≠ n + 2) (h2 : ∀ t, getT l2 k = some t → ValAt G W t v) :
    Calls Try.prog 107 #[.string k, v, .pointer (some ⟨n, 0, none⟩), .pointer (some ⟨n + 1, 0, none⟩), .pointer (some ⟨n + 3, 0, none⟩)] W fun e w' => e = .returned (.bool (eqK l1 l2 k)) ∧ EqCells n r pa w' ∧ ButS (fun b => b = n + 2) W w' := by
  obtain ⟨t2, ht2⟩ := getT_isSome hk2
  unfold eqK
  cases hg : getT l1 k with
  | none =>
    refine (meNone n r pa k v W h hm.is_ (getT_none.1 hg)).mono ?_
    rintro e w' ⟨rfl, rfl⟩
    exact ⟨rfl, h, rfl, rfl, rfl, Nat.le_refl _, fun _ _ _ => rfl⟩
  | some t1 =>
    rw [ht2]
    exact meSome n r pa k t1 t2 (hok _ _ (getT_mem hg) _ _ (getT_mem ht2)) v W h hm.is_ (List.mem_map.2 ⟨_, getT_mem hg, rfl⟩) hF (hm.items _ _ (getT_mem hg)) hG (h2 t2 ht2)

theorem allocVu_calls (a : Addr) (w : World) : Calls Try.prog 36 #[.pointer (some a)] w fun e w' => e = .returned (.pointer (some ⟨w.heap.size, 0, none⟩)) ∧ w.alloc (.cells #[.nilIface] 103) = w' := by
  go_enter Try.func36, Try.ntmps36
  go_wp2
  go_ret
  exact ⟨rfl, rfl⟩
/-- the world in which the range is called -/
theorem meWorld (w : World) (r : Nat) (pa : Addr) : EqCells w.heap.size r pa ((((w.alloc (.cells #[.map (some r)] 149)).alloc (.cells #[.iface 72 (.pointer (some pa))] 83)).alloc (.cells #[.nilIface] 103)).alloc (.cells #[.pointer (some ⟨w.heap.size + 2, 0, none⟩)] 77)) ∧
    Below w.heap.size w ((((w.alloc (.cells #[.map (some r)] 149)).alloc (.cells #[.iface 72 (.pointer (some pa))] 83)).alloc (.cells #[.nilIface] 103)).alloc (.cells #[.pointer (some ⟨w.heap.size + 2, 0, none⟩)] 77)) := by
  refine ⟨⟨(((Bk.new w _ _).alloc _).alloc _).alloc _, ?_, ⟨.nilIface, ?_⟩, ?_⟩, ?_⟩
  · have := ((Bk.new (w.alloc (.cells #[.map (some r)] 149)) 83 #[.iface 72 (.pointer (some pa))]).alloc (.cells #[.nilIface] 103)).alloc (.cells #[.pointer (some ⟨w.heap.size + 2, 0, none⟩)] 77)
    simpa using this
  · have := (Bk.new ((w.alloc (.cells #[.map (some r)] 149)).alloc (.cells #[.iface 72 (.pointer (some pa))] 83)) 103 #[.nilIface]).alloc (.cells #[.pointer (some ⟨w.heap.size + 2, 0, none⟩)] 77)
    simpa using this
  · have := Bk.new (((w.alloc (.cells #[.map (some r)] 149)).alloc (.cells #[.iface 72 (.pointer (some pa))] 83)).alloc (.cells #[.nilIface] 103)) 77 #[.pointer (some ⟨w.heap.size + 2, 0, none⟩)]
    simpa using this
  · exact ((((Below.refl _ _).alloc (Nat.le_refl _) _).alloc (by simp) _).alloc (by simp; omega) _).alloc (by simp; omega) _

/-- the range of the second map with the closure -/
theorem meIterate {l1 l2 : List (ByteArray × T)} (hok : ∀ k a, (k, a) ∈ l1 → ∀ j b, (j, b) ∈ l2 → EqvOK a b) {r1 r2 : Nat} {val1 val2 : ByteArray → Value} {w W : World} (h1 : MapAt (Old w) w r1 l1 val1) (h2 : MapAt (Old w) w r2 l2 val2) (hl : l1.length = l2.length) (hne : l2 ≠ []) (pa : Addr)
    (hc : EqCells w.heap.size r1 pa W) (hb : Below w.heap.size w W) (hsz : w.heap.size + 4 ≤ W.heap.size) :
    Calls Try.prog 102 #[.map (some r2), .iface 72 (.pointer (some pa)), .func (.func 107) #[] #[.pointer (some ⟨w.heap.size, 0, none⟩), .pointer (some ⟨w.heap.size + 1, 0, none⟩), .pointer (some ⟨w.heap.size + 3, 0, none⟩)]] W
      (EqPost (T.eqvM l1 l2) w) := by
  have h2' := h2.below (fun _ h => h) hb
  have hr2 : r2 < w.heap.size := h2.blk
  refine (iterate_some h2'.is_ (by simpa using hne) pa _ _ (fun args W => by kernel_rfl) (fun vis X => (∀ k ∈ vis, eqK l1 l2 k = true) ∧ EqCells w.heap.size r1 pa X ∧ Below w.heap.size w X) (fun X => T.eqvM l1 l2 = false ∧ Below w.heap.size w X) ⟨by simp, hc, hb⟩ ?_ ?_ ?_ ?_).mono ?_
  · intro k hk
    obtain ⟨t, ht⟩ := getT_isSome hk
    exact ⟨_, _, t, h2.items _ _ (getT_mem ht)⟩
  · intro vis X X' hj _ hk
    refine ⟨hj.1, hj.2.1.keep fun b hb' _ _ => hk.block b hb' (by omega) (by omega), ?_⟩
    have := hj.2.2
    exact ⟨hk.os.trans this.os, hk.tape.trans this.tape, hk.output.trans this.output, Nat.le_trans this.size hk.size, fun b hb' => (hk.block b (by have := this.size; omega) (by omega) (by omega)).trans (this.block b hb')⟩
  · intro vis X hj hbx
    exact ⟨hj.1, hj.2.1.keep fun b hb' _ _ => hbx.block b hb', hj.2.2.trans (hbx.mono hj.2.2.size)⟩
  · intro vis k X hk hnk hj hszX hBX hmX
    have hsX := hj.2.2.size
    refine (meStep hok w.heap.size r1 pa k hk (val := val1) (F := Old w) (.iface 77 (.pointer (some ⟨W.heap.size, 0, none⟩))) X hj.2.1 (h1.below (fun _ h => h) hj.2.2) (fun b hb' => ?_) (G := fun b => b < w.heap.size ∨ b = W.heap.size) (fun b hb' => ?_) ?_).mono ?_
    · have hb' : b < w.heap.size := hb'
      omega
    · rcases hb' with hb' | hb' <;> omega
    · intro t ht
      have hi := h2.items _ _ (getT_mem ht)
      exact ⟨W.heap.size, val2 k, rfl, .inr rfl, hBX, (hi.keeps (Keeps.below hj.2.2 fun _ h => h)).mono fun b hb' => .inl hb'⟩
    · rintro e X' ⟨rfl, hc', hbs⟩
      have hblk : ∀ b, b < X.heap.size → b ≠ w.heap.size + 2 → X'.heap[b]? = X.heap[b]? := fun b hb' hn => hbs.block b hb' hn
      have hb' : Below w.heap.size w X' := ⟨hbs.os.trans hj.2.2.os, hbs.tape.trans hj.2.2.tape, hbs.output.trans hj.2.2.output, Nat.le_trans hj.2.2.size hbs.size, fun b hb' => (hblk b (by omega) (by omega)).trans (hj.2.2.block b hb')⟩
      refine ⟨?_, hblk _ (by omega) (by omega), hblk _ (by omega) (by omega), hblk _ (by omega) (by omega)⟩
      cases he : eqK l1 l2 k
      · exact .inr ⟨rfl, eqvM_false h1.sorted h2.sorted hk he, hb'⟩
      · refine .inl ⟨rfl, fun x hx => ?_, hc', hb'⟩
        rcases List.mem_append.1 hx with hx | hx
        · exact hj.1 x hx
        · rw [List.mem_singleton.1 hx]; exact he
  · rintro e w' (⟨rfl, vis, hp, hall, _, hb'⟩ | ⟨rfl, hf, hb'⟩)
    · have : T.eqvM l1 l2 = true := (eqvM_iff' h1.sorted h2.sorted).2 ⟨hl, fun k hk => hall k (hp.mem_iff.2 hk)⟩
      rw [this]
      exact ⟨rfl, hb'⟩
    · rw [hf]
      exact ⟨rfl, hb'⟩

set_option maxRecDepth 100000 in
set_option maxHeartbeats 1000000 in
/-- EqualsUsing of two maps, where the fields' equalities are known -/
theorem mapEquals_calls {l1 l2 : List (ByteArray × T)} (hok : ∀ k a, (k, a) ∈ l1 → ∀ j b, (j, b) ∈ l2 → EqvOK a b) {r1 r2 : Nat} {val1 val2 : ByteArray → Value} {w : World} (h1 : MapAt (Old w) w r1 l1 val1) (h2 : MapAt (Old w) w r2 l2 val2) (pa : Addr) :
    Calls Try.prog 97 #[.map (some r1), .iface 72 (.pointer (some pa)), .iface 149 (.map (some r2))] w (EqPost (T.eqvM l1 l2) w) := by
  have Hm : ∀ W, Below w.heap.size w W → Hid (MapAt (Old w) W r1 l1 val1 ∧ MapAt (Old w) W r2 l2 val2) := fun W hb => hide ⟨h1.below (fun _ h => h) hb, h2.below (fun _ h => h) hb⟩
  by_cases hl : l1.length = l2.length
  · by_cases hn : l2 = []
    · subst hn
      have hl1 : l1 = [] := List.eq_nil_of_length_eq_zero (by simpa using hl)
      subst hl1
      rw [T.eqvM]
      clear hl hok h1 h2
      go_enter_defers Try.func97, Try.ntmps97
      go_wp2_with fail
      refine (mapLength_calls (Hm _ (((Below.refl _ _).alloc (Nat.le_refl _) _).alloc (by simp) _)).out.1.is_).mono ?_
      rintro e w1 ⟨rfl, rfl⟩
      go_wp2_with fail
      refine (mapLength_calls (Hm _ (((Below.refl _ _).alloc (Nat.le_refl _) _).alloc (by simp) _)).out.2.is_).mono ?_
      rintro e w1 ⟨rfl, rfl⟩
      go_wp2
      exact ⟨_, results_tmp rfl _ _ _, rfl, ((Below.refl _ _).alloc (Nat.le_refl _) _).alloc (by simp) _⟩
    · obtain ⟨c, hcv⟩ : ∃ c, T.eqvM l1 l2 = c := ⟨_, rfl⟩
      have Hit : ∀ W, EqCells w.heap.size r1 pa W → Below w.heap.size w W → w.heap.size + 4 ≤ W.heap.size → Hid (Calls Try.prog 102 #[.map (some r2), .iface 72 (.pointer (some pa)), .func (.func 107) #[] #[.pointer (some ⟨w.heap.size, 0, none⟩), .pointer (some ⟨w.heap.size + 1, 0, none⟩), .pointer (some ⟨w.heap.size + 3, 0, none⟩)]] W
          (EqPost c w)) := fun W hc hb hs => hide (hcv ▸ meIterate hok h1 h2 hl hn pa hc hb hs)
      rw [hcv]
      have hi : (l1.length : Int) = (l2.length : Int) := by omega
      have hi1 : ¬ (l2.length : Int) = 0 := fun h => hn (List.eq_nil_of_length_eq_zero (by omega))
      have HW := hide (meWorld w r1 pa)
      clear hcv hok h1 h2 hl hn
      go_enter_defers Try.func97, Try.ntmps97
      go_wp2_with fail
      refine (mapLength_calls (Hm _ (((Below.refl _ _).alloc (Nat.le_refl _) _).alloc (by simp) _)).out.1.is_).mono ?_
      rintro e w1 ⟨rfl, rfl⟩
      go_wp2_with fail
      refine (mapLength_calls (Hm _ (((Below.refl _ _).alloc (Nat.le_refl _) _).alloc (by simp) _)).out.2.is_).mono ?_
      rintro e w1 ⟨rfl, rfl⟩
      go_wp2_with fail
      refine (allocVu_calls _ _).mono ?_
      rintro e w1 ⟨rfl, rfl⟩
      go_wp2_with fail
      generalize hW4 : World.alloc _ _ = W4
      have hW : EqCells w.heap.size r1 pa W4 ∧ Below w.heap.size w W4 ∧ w.heap.size + 4 ≤ W4.heap.size := by rw [← hW4]; exact ⟨HW.out.1, HW.out.2, by simp⟩
      have qa := hW.1.a.cell 0
      have qp := hW.1.p.cell 0
      simp at qa qp
      have HW2 := hide hW
      clear hW hW4 HW Hm hi hi1
      go_still_tail 4, (by kernel_rfl)
      change wpList _ _ _ _ _ W4.drew
      go_wp2_with fail
      have hcall := (Hit W4.drew ⟨HW2.out.1.m, HW2.out.1.a, HW2.out.1.v, HW2.out.1.p⟩ ⟨HW2.out.2.1.os, HW2.out.2.1.tape, HW2.out.2.1.output, HW2.out.2.1.size, HW2.out.2.1.block⟩ HW2.out.2.2).out
      refine hcall.mono ?_
      clear hcall
      rintro e w2 ⟨rfl, hb2⟩
      have Hb2 := hide hb2
      clear hb2
      go_wp2_with fail
      refine leaves_cons (f := 68) (args := #[.pointer (some pa), .iface 77 (.pointer (some ⟨w.heap.size + 2, 0, none⟩))]) (by simp) (by simp [go_sem, meth_Free]) ?_
      refine (free_deferred pa _ .returning _).mono ?_
      rintro e u' w' ⟨rfl, rfl, rfl⟩
      exact ⟨_, results_tmp rfl _ _ _, rfl, Hb2.out⟩
  · have hf : T.eqvM l1 l2 = false := by
      rw [Bool.eq_false_iff]
      exact fun h => hl ((eqvM_iff' h1.sorted h2.sorted).1 h).1
    rw [hf]
    have hi : ¬ (l1.length : Int) = (l2.length : Int) := by omega
    clear hok h1 h2 hl hf
    go_enter_defers Try.func97, Try.ntmps97
    go_wp2_with fail
    refine (mapLength_calls (Hm _ (((Below.refl _ _).alloc (Nat.le_refl _) _).alloc (by simp) _)).out.1.is_).mono ?_
    rintro e w1 ⟨rfl, rfl⟩
    go_wp2_with fail
    refine (mapLength_calls (Hm _ (((Below.refl _ _).alloc (Nat.le_refl _) _).alloc (by simp) _)).out.2.is_).mono ?_
    rintro e w1 ⟨rfl, rfl⟩
    go_wp2
    exact ⟨_, results_tmp rfl _ _ _, rfl, ((Below.refl _ _).alloc (Nat.le_refl _) _).alloc (by simp) _⟩

end Go.Proofs.Ytajeghkjppkhcaa

/-!
  value.EqualsUsing of two lists, of two maps; and of every two values.
-/

namespace Go.Proofs.Ytajeghkjppkhcaa
open Go.RowKit
theorem meth_MEqualsUsing (n : Nat) (v : Value) (w : World) : (method (n + 1) 149 v "EqualsUsing").run Try.prog w = .ok (97, v) w := by kernel_rfl
attribute [local go_sem] run_store_float run_load_k meth_IsNull meth_IsFloat meth_IsInt meth_IsString meth_IsBool meth_IsList meth_IsMap meth_AsMapUsing meth_AsListUsing meth_Free meth_LEqualsUsing meth_MEqualsUsing

attribute [local go_sem] T.isNull T.isFlt T.isInt T.isStr T.isBool T.isList T.isMap

/-- EqualsUsing of the package's list -/
theorem listEqualsUsing_calls (l1 l2 : List T) (hok : ∀ a ∈ l1, ∀ b ∈ l2, EqvOK a b) (A1 A2 : Option Addr) (c1 c2 : Nat) (xs1 xs2 : List Value) (pa : Addr) (w : World) (hb1 : l1.length * 88 ≤ R47)
    (hr1 : Row (Old w) w 1 A1 l1.length xs1) (hr2 : Row (Old w) w 1 A2 l2.length xs2) (hx1 : AnysAt (Old w) w l1 xs1) (hx2 : AnysAt (Old w) w l2 xs2) :
    Calls Try.prog 89 #[.slice A1 l1.length c1, .iface 72 (.pointer (some pa)), .iface 148 (.slice A2 l2.length c2)] w (EqPost (T.eqvL l1 l2) w) := by
  have hk : ∀ o, Keeps (Old w) w (w.alloc o) := fun o => Keeps.alloc w o fun _ h => h
  have hm : ∀ o b, Old w b → Old (w.alloc o) b := fun o b h => Nat.lt_of_lt_of_le h (by simp)
  have H := fun o (hp : Bk (w.alloc o) w.heap.size 148 #[.slice A1 l1.length c1]) => hide (listEquals_callsP l1 l2 hok w.heap.size A1 A2 c1 c2 xs1 xs2 pa (w.alloc o) hb1 ((hr1.keeps (hk o)).mono (hm o)) ((hr2.keeps (hk o)).mono (hm o)) (hx1.keeps (hk o) (hm o)) (hx2.keeps (hk o) (hm o)) hp)
  generalize T.eqvL l1 l2 = d at H
  clear hok hr1 hr2 hx1 hx2 hk hm
  go_enter Try.func89, Try.ntmps89
  go_wp2_with fail
  refine (H _ (Bk.new w _ _)).out.mono ?_
  clear H
  rintro e w2 ⟨rfl, hb⟩
  have Hb := hide (((Below.refl _ _).alloc (Nat.le_refl _) _).trans (hb.mono (by simp)))
  clear hb
  go_wp2
  go_ret
  exact ⟨rfl, Hb.out⟩

set_option maxRecDepth 100000 in
set_option maxHeartbeats 4000000 in
theorem equalsLL (l1 l2 : List T) (hok : ∀ a ∈ l1, ∀ b ∈ l2, EqvOK a b) : EqvOK (.list l1) (.list l2) := by
  intro w pa v1 v2 h1 h2
  obtain ⟨p, u, rfl, hpl, hB, hu⟩ := h1
  obtain ⟨q, v, rfl, hql, hC, hv⟩ := h2
  have hc := hB.cell 0
  have hd := hC.cell 0
  simp at hc hd
  clear hB hC
  simp only [Old] at hpl hql
  have hst : St2 w p q u v w := ⟨hc, hd, Below.refl _ _⟩
  rw [T.eqv]
  obtain ⟨c, hcv⟩ : ∃ c, T.eqvL l1 l2 = c := ⟨_, rfl⟩
  rw [hcv]
  have Hc := hide hcv
  clear hcv
  have Hok := hide hok
  have Hu := hide hu
  have Hv := hide hv
  clear hok
  cases hu with
  | @list _ A1 c1 xs1 a1 a2 a3 a4 a5 =>
  cases hv with
  | @list _ A2 c2 xs2 b1 b2 b3 b4 b5 =>
  have Ha := hide (And.intro a1 (And.intro a4 a5))
  have Hb := hide (And.intro b1 (And.intro b4 b5))
  clear a1 a2 a3 a4 a5 b1 b2 b3 b4 b5
  go_enter_defers Try.func33, Try.ntmps33
  go_wp2_with fail
  refine (St2.call hst hpl hql (IsFloat_calls Hu.out _)).mono ?_
  rintro e w1 ⟨rfl, hst⟩
  have hc := hst.1
  have hd := hst.2.1
  go_wp2_with fail
  refine (St2.call hst hpl hql (IsFloat_calls Hv.out _)).mono ?_
  rintro e w1 ⟨rfl, hst⟩
  have hc := hst.1
  have hd := hst.2.1
  go_wp2_with fail
  refine (St2.call hst hpl hql (IsInt_calls Hu.out _)).mono ?_
  rintro e w1 ⟨rfl, hst⟩
  have hc := hst.1
  have hd := hst.2.1
  go_wp2_with fail
  refine (St2.call hst hpl hql (IsInt_calls Hv.out _)).mono ?_
  rintro e w1 ⟨rfl, hst⟩
  have hc := hst.1
  have hd := hst.2.1
  go_wp2_with fail
  refine (St2.call hst hpl hql (IsString_calls Hu.out _)).mono ?_
  rintro e w1 ⟨rfl, hst⟩
  have hc := hst.1
  have hd := hst.2.1
  go_wp2_with fail
  refine (St2.call hst hpl hql (IsString_calls Hv.out _)).mono ?_
  rintro e w1 ⟨rfl, hst⟩
  have hc := hst.1
  have hd := hst.2.1
  go_wp2_with fail
  refine (St2.call hst hpl hql (IsBool_calls Hu.out _)).mono ?_
  rintro e w1 ⟨rfl, hst⟩
  have hc := hst.1
  have hd := hst.2.1
  go_wp2_with fail
  refine (St2.call hst hpl hql (IsBool_calls Hv.out _)).mono ?_
  rintro e w1 ⟨rfl, hst⟩
  have hc := hst.1
  have hd := hst.2.1
  go_wp2_with fail
  refine (St2.call hst hpl hql (IsList_calls Hu.out _)).mono ?_
  rintro e w1 ⟨rfl, hst⟩
  have hc := hst.1
  have hd := hst.2.1
  go_wp2_with fail
  refine (St2.call hst hpl hql (IsList_calls Hv.out _)).mono ?_
  rintro e w1 ⟨rfl, hst⟩
  have hc := hst.1
  have hd := hst.2.1
  go_wp2_with fail
  refine (St2.call hst hpl hql (AsListUsing_calls _ _ _ _ _)).mono ?_
  rintro e w1 ⟨rfl, hst⟩
  have hc := hst.1
  have hd := hst.2.1
  go_wp2_with fail
  refine (St2.call hst hpl hql (AsListUsing_calls _ _ _ _ _)).mono ?_
  rintro e w1 ⟨rfl, hst⟩
  have hc := hst.1
  have hd := hst.2.1
  have Hb1 := hide hst.2.2
  go_wp2_with fail
  have hk : Keeps (Old w) w w1 := Keeps.below Hb1.out fun _ hx => hx
  have hm : ∀ b, Old w b → Old w1 b := fun _ hx => Nat.lt_of_lt_of_le hx Hb1.out.size
  have hfin := listEqualsUsing_calls l1 l2 Hok.out A1 A2 c1 c2 xs1 xs2 pa w1 Ha.out.1 ((Ha.out.2.1.keeps hk).mono hm) ((Hb.out.2.1.keeps hk).mono hm)
    (fun i t u ht hu => ((Ha.out.2.2 i t u ht hu).keeps hk).mono hm) (fun i t u ht hu => ((Hb.out.2.2 i t u ht hu).keeps hk).mono hm)
  rw [Hc.out] at hfin
  refine hfin.mono ?_
  clear hfin hk hm
  rintro e w2 ⟨rfl, hb2⟩
  have Hb2 := hide (Hb1.out.trans (hb2.mono Hb1.out.size))
  clear hb2
  go_wp2_with fail
  refine leaves_cons (f := 68) (args := #[.pointer (some pa), .iface 148 (.slice A2 l2.length c2)]) (by simp) (by simp [go_sem, meth_Free]) ?_
  refine (free_deferred pa _ .returning _).mono ?_
  rintro e u' w' ⟨rfl, rfl, rfl⟩
  refine leaves_cons (f := 68) (args := #[.pointer (some pa), .iface 148 (.slice A1 l1.length c1)]) (by simp [settle]) (by simp [go_sem, meth_Free]) ?_
  refine (free_deferred pa _ .returning _).mono ?_
  rintro e u' w' ⟨rfl, rfl, rfl⟩
  exact ⟨_, results_tmp rfl _ _ _, rfl, Hb2.out⟩

set_option maxRecDepth 100000 in
set_option maxHeartbeats 4000000 in
theorem equalsMM (l1 l2 : List (ByteArray × T)) (hok : ∀ k a, (k, a) ∈ l1 → ∀ j b, (j, b) ∈ l2 → EqvOK a b) : EqvOK (.map l1) (.map l2) := by
  intro w pa v1 v2 h1 h2
  obtain ⟨p, u, rfl, hpl, hB, hu⟩ := h1
  obtain ⟨q, v, rfl, hql, hC, hv⟩ := h2
  have hc := hB.cell 0
  have hd := hC.cell 0
  simp at hc hd
  clear hB hC
  simp only [Old] at hpl hql
  have hst : St2 w p q u v w := ⟨hc, hd, Below.refl _ _⟩
  rw [T.eqv]
  obtain ⟨c, hcv⟩ : ∃ c, T.eqvM l1 l2 = c := ⟨_, rfl⟩
  rw [hcv]
  have Hc := hide hcv
  clear hcv
  have Hok := hide hok
  have Hu := hide hu
  have Hv := hide hv
  clear hok
  obtain ⟨r1, val1, rfl, hm1⟩ := MapAt.of_any hu
  obtain ⟨r2, val2, rfl, hm2⟩ := MapAt.of_any hv
  have Ha := hide (And.intro hm1 hm2)
  clear hm1 hm2 hu hv
  go_enter_defers Try.func33, Try.ntmps33
  go_wp2_with fail
  refine (St2.call hst hpl hql (IsFloat_calls Hu.out _)).mono ?_
  rintro e w1 ⟨rfl, hst⟩
  have hc := hst.1
  have hd := hst.2.1
  go_wp2_with fail
  refine (St2.call hst hpl hql (IsFloat_calls Hv.out _)).mono ?_
  rintro e w1 ⟨rfl, hst⟩
  have hc := hst.1
  have hd := hst.2.1
  go_wp2_with fail
  refine (St2.call hst hpl hql (IsInt_calls Hu.out _)).mono ?_
  rintro e w1 ⟨rfl, hst⟩
  have hc := hst.1
  have hd := hst.2.1
  go_wp2_with fail
  refine (St2.call hst hpl hql (IsInt_calls Hv.out _)).mono ?_
  rintro e w1 ⟨rfl, hst⟩
  have hc := hst.1
  have hd := hst.2.1
  go_wp2_with fail
  refine (St2.call hst hpl hql (IsString_calls Hu.out _)).mono ?_
  rintro e w1 ⟨rfl, hst⟩
  have hc := hst.1
  have hd := hst.2.1
  go_wp2_with fail
  refine (St2.call hst hpl hql (IsString_calls Hv.out _)).mono ?_
  rintro e w1 ⟨rfl, hst⟩
  have hc := hst.1
  have hd := hst.2.1
  go_wp2_with fail
  refine (St2.call hst hpl hql (IsBool_calls Hu.out _)).mono ?_
  rintro e w1 ⟨rfl, hst⟩
  have hc := hst.1
  have hd := hst.2.1
  go_wp2_with fail
  refine (St2.call hst hpl hql (IsBool_calls Hv.out _)).mono ?_
  rintro e w1 ⟨rfl, hst⟩
  have hc := hst.1
  have hd := hst.2.1
  go_wp2_with fail
  refine (St2.call hst hpl hql (IsList_calls Hu.out _)).mono ?_
  rintro e w1 ⟨rfl, hst⟩
  have hc := hst.1
  have hd := hst.2.1
  go_wp2_with fail
  refine (St2.call hst hpl hql (IsList_calls Hv.out _)).mono ?_
  rintro e w1 ⟨rfl, hst⟩
  have hc := hst.1
  have hd := hst.2.1
  go_wp2_with fail
  refine (St2.call hst hpl hql (IsMap_calls Hu.out _)).mono ?_
  rintro e w1 ⟨rfl, hst⟩
  have hc := hst.1
  have hd := hst.2.1
  go_wp2_with fail
  refine (St2.call hst hpl hql (IsMap_calls Hv.out _)).mono ?_
  rintro e w1 ⟨rfl, hst⟩
  have hc := hst.1
  have hd := hst.2.1
  go_wp2_with fail
  refine (St2.call hst hpl hql (AsMapUsing_calls _ _ _)).mono ?_
  rintro e w1 ⟨rfl, hst⟩
  have hc := hst.1
  have hd := hst.2.1
  go_wp2_with fail
  refine (St2.call hst hpl hql (AsMapUsing_calls _ _ _)).mono ?_
  rintro e w1 ⟨rfl, hst⟩
  have hc := hst.1
  have hd := hst.2.1
  have Hb1 := hide hst.2.2
  go_wp2_with fail
  have hk : Keeps (Old w) w w1 := Keeps.below Hb1.out fun _ hx => hx
  have hm : ∀ b, Old w b → Old w1 b := fun _ hx => Nat.lt_of_lt_of_le hx Hb1.out.size
  have hfin := mapEquals_calls Hok.out ((Ha.out.1.keeps hk).mono hm) ((Ha.out.2.keeps hk).mono hm) pa
  rw [Hc.out] at hfin
  refine hfin.mono ?_
  clear hfin hk hm
  rintro e w2 ⟨rfl, hb2⟩
  have Hb2 := hide (Hb1.out.trans (hb2.mono Hb1.out.size))
  clear hb2
  go_wp2_with fail
  refine leaves_cons (f := 68) (args := #[.pointer (some pa), .iface 149 (.map (some r2))]) (by simp) (by simp [go_sem, meth_Free]) ?_
  refine (free_deferred pa _ .returning _).mono ?_
  rintro e u' w' ⟨rfl, rfl, rfl⟩
  refine leaves_cons (f := 68) (args := #[.pointer (some pa), .iface 149 (.map (some r1))]) (by simp [settle]) (by simp [go_sem, meth_Free]) ?_
  refine (free_deferred pa _ .returning _).mono ?_
  rintro e u' w' ⟨rfl, rfl, rfl⟩
  exact ⟨_, results_tmp rfl _ _ _, rfl, Hb2.out⟩

/-- value.EqualsUsing of every two values -/
theorem eqv_all (a b : T) : EqvOK a b := by
  induction h : a.rank using Nat.strongRecOn generalizing a b with
  | ind n ih =>
  subst h
  intro w pa v1 v2 h1 h2
  cases a with
  | null => exact equalsNull pa h1 h2 (fun _ h => h) (fun _ h => h)
  | bool x => exact equalsBool x pa h1 h2 (fun _ h => h) (fun _ h => h)
  | int x => exact equalsInt x pa h1 h2 (fun _ h => h) (fun _ h => h)
  | flt x => exact equalsFlt x pa h1 h2 (fun _ h => h) (fun _ h => h)
  | str x => exact equalsStr x pa h1 h2 (fun _ h => h) (fun _ h => h)
  | list l =>
    cases b with
    | list m => exact equalsLL l m (fun a ha b _ => ih _ (T.rank_list ha) a b rfl) w pa v1 v2 h1 h2
    | _ => exact equalsList l (by rfl) pa h1 h2 (fun _ h => h) (fun _ h => h)
  | map l =>
    cases b with
    | map m => exact equalsMM l m (fun k a ha j b _ => ih _ (T.rank_map ha) a b rfl) w pa v1 v2 h1 h2
    | _ => exact equalsMap l (by rfl) pa h1 h2 (fun _ h => h) (fun _ h => h)

end Go.Proofs.Ytajeghkjppkhcaa
