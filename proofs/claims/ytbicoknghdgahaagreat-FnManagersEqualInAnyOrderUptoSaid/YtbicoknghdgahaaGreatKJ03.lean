/- Parts: EqD, Law, FieldList. -/
import Derived.Test.YtbicoknghdgahaaGreatKJ01
import Derived.Test.YtbicoknghdgahaaGreatKJ02
set_option linter.unusedVariables false
set_option linter.unusedSimpArgs false
namespace Go.Proofs.YtbicoknghdgahaaGreat
open Go.RowKit
attribute [local go_sem] run_store_float run_load_k meth_allocVu meth_Free meth_Length meth_IterateUsing

structure EqCells (n r : Nat) (pa : Addr) (W : World) : Prop where
 m : Bk W n 453 #[.map (some r)]
 a : Bk W (n + 1) 268 #[.iface 303 (.pointer (some pa))]
 v : ∃ x, Bk W (n + 2) 343 #[x]
 p : Bk W (n + 3) 302 #[.pointer (some ⟨n + 2, 0, none⟩)]
theorem EqCells.keep {n r : Nat} {pa : Addr} {W W' : World} (h : EqCells n r pa W) (hk : ∀ b, b < W.heap.size → n ≤ b → b < n + 4 → W'.heap[b]? = W.heap[b]?) : EqCells n r pa W' := by
 obtain ⟨x, hx⟩ := h.v
 exact ⟨(hk _ h.m.lt (by omega) (by omega)).trans h.m, (hk _ h.a.lt (by omega) (by omega)).trans h.a, ⟨x, (hk _ hx.lt (by omega) (by omega)).trans hx⟩, (hk _ h.p.lt (by omega) (by omega)).trans h.p⟩
theorem EqCells.set_ {n r : Nat} {pa : Addr} {W : World} (h : EqCells n r pa W) (u : Value) : EqCells n r pa (W.setCell ⟨n + 2, 0, none⟩ u) := by
 obtain ⟨x, hx⟩ := h.v
 exact ⟨h.m.far (by simp) _, h.a.far (by simp) _, ⟨u, by simpa using hx.set_ 0 u⟩, h.p.far (by simp) _⟩

set_option maxRecDepth 100000 in
set_option maxHeartbeats 1000000 in
theorem meNone (n r : Nat) (pa : Addr) {ks : List ByteArray} {val : ByteArray → Value} (k : ByteArray) (v : Value) (W : World) (h : EqCells n r pa W) (hm : MapIs W r ks val) (hk : k ∉ ks) :
  Calls Tryz.prog 351 #[.string k, v, .pointer (some ⟨n, 0, none⟩), .pointer (some ⟨n + 1, 0, none⟩), .pointer (some ⟨n + 3, 0, none⟩)] W fun e w' => e = .returned (.bool false) ∧ W = w' := by
 have hl := (hm.lookup_no Tryz.underlying453 Tryz.underlying9 (z := .nilIface) (by kernel_rfl) k hk).1
 have q0 := h.m.cell 0
 simp at q0
 clear h hm
 go_enter Tryz.func351, Tryz.ntmps351
 go_wp2
 go_ret
 exact ⟨rfl, rfl⟩

structure MeLoads (n : Nat) (pa : Addr) (W : World) : Prop where
 a : W.cell? ⟨n + 1, 0, none⟩ = some (.iface 303 (.pointer (some pa)))
 p : W.cell? ⟨n + 3, 0, none⟩ = some (.pointer (some ⟨n + 2, 0, none⟩))
theorem EqCells.loads {n r : Nat} {pa : Addr} {W : World} (h : EqCells n r pa W) : MeLoads n pa W := ⟨h.a.cell 0, h.p.cell 0⟩

set_option maxRecDepth 100000 in
set_option maxHeartbeats 1000000 in
theorem meSome (n r : Nat) (pa : Addr) {ks : List ByteArray} {val : ByteArray → Value} (k : ByteArray) (t1 t2 : T) (hok : EqvOK t1 t2) (v : Value) (W : World) (h : EqCells n r pa W) (hm : MapIs W r ks val) (hk : k ∈ ks) {F : Nat → Prop} (hF : ∀ b, F b → b < W.heap.size ∧ b ≠ n + 2) (h1 : AnyAt F W t1 (val k)) {G : Nat → Prop} (hG : ∀ b, G b → b < W.heap.size ∧ b ≠ n + 2) (h2 : ValAt G W t2 v) :
  Calls Tryz.prog 351 #[.string k, v, .pointer (some ⟨n, 0, none⟩), .pointer (some ⟨n + 1, 0, none⟩), .pointer (some ⟨n + 3, 0, none⟩)] W fun e w' => e = .returned (.bool (T.eqv t1 t2)) ∧ EqCells n r pa w' ∧ ButS (fun b => b = n + 2) W w' := by
 have hl := (hm.lookup_ok Tryz.underlying453 Tryz.underlying9 k hk).1
 have q0 := h.m.cell 0
 simp at q0
 generalize val k = u at hl h1
 obtain ⟨d, hd⟩ : ∃ d, T.eqv t1 t2 = d := ⟨_, rfl⟩
 rw [hd]
 have Hd := hide hd
 clear hd
 have Hok := hide hok
 obtain ⟨g2, u2, rfl, hg2, hB2, hu2⟩ := h2
 have Hh := hide h
 have H1 := hide h1
 have H2 := hide (show ValAt G W t2 (.iface 302 (.pointer (some ⟨g2, 0, none⟩))) from ⟨g2, u2, rfl, hg2, hB2, hu2⟩)
 have HF := hide hF
 have HG := hide hG
 have hsz : n + 2 < W.heap.size := by obtain ⟨x, hx⟩ := h.v; exact hx.lt
 clear h hm hok h1 hg2 hB2 hu2 hF hG
 have hone := H1.out.one.1
 go_enter Tryz.func351, Tryz.ntmps351
 go_wp2_with fail
 obtain ⟨x, hx⟩ := Hh.out.v
 have hS0 : MeLoads n pa W.drew := ⟨Hh.out.loads.a, Hh.out.loads.p⟩
 have hV1 : Bk W.drew (n + 2) 343 #[x] := hx
 generalize hS : MeLoads n pa = S at hS0
 refine wp_region_head 5 S (by rfl) (by kernel_rfl) ?_
 iterate 3
  refine HT.nx (v := ?_) rfl (by kernel_rfl) (fun _ _ _ h => h) (Or.inl ⟨by rfl, ?_⟩) ‹_› ?_
  rotate_left
  ·intro W hSw; rw [← hS] at hSw; obtain ⟨s1, s2⟩ := hSw; go_simp; with_reducible rfl
  simp only [Act.put, zzA, zzZ, zzS]
 refine HT.take 4 (v := ?_) rfl (by kernel_rfl) (fun _ _ _ h => h) (Or.inl ⟨by rfl, ?_⟩) ‹_› ?_
 rotate_left
 ·intro W hSw; rw [← hS] at hSw; obtain ⟨s1, s2⟩ := hSw; go_simp; with_reducible rfl
 simp only [Act.put, zzA, zzZ, zzS]
 refine HT.one 3 rfl (by kernel_rfl) (by rfl) (fun K hK => ?_)
 go_simp
 refine (reuse_calls (n + 2) x H1.out W.drew hV1).mono ?_
 rintro e w1 ⟨rfl, hw1⟩
 have hW : EqCells n r pa w1 := by rw [← hw1]; exact EqCells.set_ (W := W.drew) (EqCells.keep Hh.out fun _ _ _ _ => rfl) u
 have hB1 : ButS (fun b => b = n + 2) W w1 := by rw [← hw1]; exact ⟨rfl, rfl, rfl, by simp, fun b _ hb => Below.heap_setCell W.drew _ _ _ hb⟩
 have hv1 : Bk w1 (n + 2) 343 #[u] := by rw [← hw1]; simpa using hV1.set_ 0 u
 go_simp
 refine hK.out _ _ (by rw [← hS]; exact hW.loads) ?_
 refine HT.done (by kernel_rfl) ?_
 simp only [List.drop_succ_cons, List.drop_zero]
 have Hw1 := hide (And.intro hW (And.intro hB1 hv1))
 clear hS0 hS hK hx hV1 hw1 hW hB1 hv1
 go_wp2_with fail
 have hk : Keeps F W w1 := fun b hb => Hw1.out.2.1.block b (HF.out b hb).1 (HF.out b hb).2
 have hk2 : Keeps G W w1 := fun b hb => Hw1.out.2.1.block b (HG.out b hb).1 (HG.out b hb).2
 have hs1 := Hw1.out.2.1.size
 have hcall := Hok.out w1 pa (.iface 302 (.pointer (some ⟨n + 2, 0, none⟩))) (.iface 302 (.pointer (some ⟨g2, 0, none⟩)))
  ⟨n + 2, u, rfl, Hw1.out.2.2.lt, Hw1.out.2.2, (H1.out.keeps hk).mono fun b hb => Nat.lt_of_lt_of_le (HF.out b hb).1 hs1⟩
  ((H2.out.keeps hk2).mono fun b hb => Nat.lt_of_lt_of_le (HG.out b hb).1 hs1)
 rw [Hd.out] at hcall
 refine hcall.mono ?_
 rintro e w2 ⟨rfl, hb2⟩
 have Hfin := hide (And.intro (Hw1.out.1.keep fun b hb _ _ => hb2.block b hb) (Hw1.out.2.1.trans (ButS.below (S := fun b => b = n + 2) hb2) fun _ _ h => h))
 clear hcall hb2 hk hk2 hs1
 go_wp2
 go_ret
 exact ⟨rfl, Hfin.out⟩

theorem getT_isSome {α : Type} {l : List (ByteArray × α)} {k : ByteArray} (h : k ∈ l.map Prod.fst) : ∃ t, getT l k = some t := by
 cases hg : getT l k with
 | none => exact absurd h (getT_none.1 hg)
 | some t => exact ⟨t, rfl⟩

theorem meStep {l1 l2 : List (ByteArray × T)} (hok : ∀ k a, (k, a) ∈ l1 → ∀ j b, (j, b) ∈ l2 → EqvOK a b) (n r : Nat) (pa : Addr) (k : ByteArray) (hk2 : k ∈ l2.map Prod.fst) {val : ByteArray → Value} {F : Nat → Prop} (v : Value) (W : World) (h : EqCells n r pa W) (hm : MapAt F W r l1 val)
  (hF : ∀ b, F b → b < W.heap.size ∧ b ≠ n + 2) {G : Nat → Prop} (hG : ∀ b, G b → b < W.heap.size ∧ b ≠ n + 2) (h2 : ∀ t, getT l2 k = some t → ValAt G W t v) :
  Calls Tryz.prog 351 #[.string k, v, .pointer (some ⟨n, 0, none⟩), .pointer (some ⟨n + 1, 0, none⟩), .pointer (some ⟨n + 3, 0, none⟩)] W fun e w' => e = .returned (.bool (eqK l1 l2 k)) ∧ EqCells n r pa w' ∧ ButS (fun b => b = n + 2) W w' := by
 obtain ⟨t2, ht2⟩ := getT_isSome hk2
 unfold eqK
 cases hg : getT l1 k with
 | none =>
  refine (meNone n r pa k v W h hm.is_ (getT_none.1 hg)).mono ?_
  rintro e w' ⟨rfl, rfl⟩
  exact ⟨rfl, h, rfl, rfl, rfl, Nat.le_refl _, fun _ _ _ => rfl⟩
 | some t1 =>
  rw [ht2]
  exact meSome n r pa k t1 t2 (hok _ _ (getT_mem hg) _ _ (getT_mem ht2)) v W h hm.is_ (List.mem_map.2 ⟨_, getT_mem hg, rfl⟩) hF (hm.items _ _ (getT_mem hg)) hG (h2 t2 ht2)

theorem allocVu_calls (a : Addr) (w : World) : Calls Tryz.prog 171 #[.pointer (some a)] w fun e w' => e = .returned (.pointer (some ⟨w.heap.size, 0, none⟩)) ∧ w.alloc (.cells #[.nilIface] 343) = w' := by
 go_enter Tryz.func171, Tryz.ntmps171
 go_wp2
 go_ret
 exact ⟨rfl, rfl⟩
theorem meWorld (w : World) (r : Nat) (pa : Addr) : EqCells w.heap.size r pa ((((w.alloc (.cells #[.map (some r)] 453)).alloc (.cells #[.iface 303 (.pointer (some pa))] 268)).alloc (.cells #[.nilIface] 343)).alloc (.cells #[.pointer (some ⟨w.heap.size + 2, 0, none⟩)] 302)) ∧
  Below w.heap.size w ((((w.alloc (.cells #[.map (some r)] 453)).alloc (.cells #[.iface 303 (.pointer (some pa))] 268)).alloc (.cells #[.nilIface] 343)).alloc (.cells #[.pointer (some ⟨w.heap.size + 2, 0, none⟩)] 302)) := by
 refine ⟨⟨(((Bk.new w _ _).alloc _).alloc _).alloc _, ?_, ⟨.nilIface, ?_⟩, ?_⟩, ?_⟩
 ·have := ((Bk.new (w.alloc (.cells #[.map (some r)] 453)) 268 #[.iface 303 (.pointer (some pa))]).alloc (.cells #[.nilIface] 343)).alloc (.cells #[.pointer (some ⟨w.heap.size + 2, 0, none⟩)] 302)
  simpa using this
 ·have := (Bk.new ((w.alloc (.cells #[.map (some r)] 453)).alloc (.cells #[.iface 303 (.pointer (some pa))] 268)) 343 #[.nilIface]).alloc (.cells #[.pointer (some ⟨w.heap.size + 2, 0, none⟩)] 302)
  simpa using this
 ·have := Bk.new (((w.alloc (.cells #[.map (some r)] 453)).alloc (.cells #[.iface 303 (.pointer (some pa))] 268)).alloc (.cells #[.nilIface] 343)) 302 #[.pointer (some ⟨w.heap.size + 2, 0, none⟩)]
  simpa using this
 ·exact ((((Below.refl _ _).alloc (Nat.le_refl _) _).alloc (by simp) _).alloc (by simp; omega) _).alloc (by simp; omega) _

theorem meIterate {l1 l2 : List (ByteArray × T)} (hok : ∀ k a, (k, a) ∈ l1 → ∀ j b, (j, b) ∈ l2 → EqvOK a b) {r1 r2 : Nat} {val1 val2 : ByteArray → Value} {w W : World} (h1 : MapAt (Old w) w r1 l1 val1) (h2 : MapAt (Old w) w r2 l2 val2) (hl : l1.length = l2.length) (hne : l2 ≠ []) (pa : Addr)
  (hc : EqCells w.heap.size r1 pa W) (hb : Below w.heap.size w W) (hsz : w.heap.size + 4 ≤ W.heap.size) :
  Calls Tryz.prog 346 #[.map (some r2), .iface 303 (.pointer (some pa)), .func (.func 351) #[] #[.pointer (some ⟨w.heap.size, 0, none⟩), .pointer (some ⟨w.heap.size + 1, 0, none⟩), .pointer (some ⟨w.heap.size + 3, 0, none⟩)]] W
   (EqPost (T.eqvM l1 l2) w) := by
 have h2' := h2.below (fun _ h => h) hb
 have hr2 : r2 < w.heap.size := h2.blk
 refine (iterate_some h2'.is_ (by simpa using hne) pa _ _ (fun args W => by kernel_rfl) (fun vis X => (∀ k ∈ vis, eqK l1 l2 k = true) ∧ EqCells w.heap.size r1 pa X ∧ Below w.heap.size w X) (fun X => T.eqvM l1 l2 = false ∧ Below w.heap.size w X) ⟨by simp, hc, hb⟩ ?_ ?_ ?_ ?_).mono ?_
 ·intro k hk
  obtain ⟨t, ht⟩ := getT_isSome hk
  exact ⟨_, _, t, h2.items _ _ (getT_mem ht)⟩
 ·intro vis X X' hj _ hk
  refine ⟨hj.1, hj.2.1.keep fun b hb' _ _ => hk.block b hb' (by omega) (by omega), ?_⟩
  have := hj.2.2
  exact ⟨hk.os.trans this.os, hk.tape.trans this.tape, hk.output.trans this.output, Nat.le_trans this.size hk.size, fun b hb' => (hk.block b (by have := this.size; omega) (by omega) (by omega)).trans (this.block b hb')⟩
 ·intro vis X hj hbx
  exact ⟨hj.1, hj.2.1.keep fun b hb' _ _ => hbx.block b hb', hj.2.2.trans (hbx.mono hj.2.2.size)⟩
 ·intro vis k X hk hnk hj hszX hBX hmX
  have hsX := hj.2.2.size
  refine (meStep hok w.heap.size r1 pa k hk (val := val1) (F := Old w) (.iface 302 (.pointer (some ⟨W.heap.size, 0, none⟩))) X hj.2.1 (h1.below (fun _ h => h) hj.2.2) (fun b hb' => ?_) (G := fun b => b < w.heap.size ∨ b = W.heap.size) (fun b hb' => ?_) ?_).mono ?_
  ·have hb' : b < w.heap.size := hb'
   omega
  ·rcases hb' with hb' | hb' <;> omega
  ·intro t ht
   have hi := h2.items _ _ (getT_mem ht)
   exact ⟨W.heap.size, val2 k, rfl, .inr rfl, hBX, (hi.keeps (Keeps.below hj.2.2 fun _ h => h)).mono fun b hb' => .inl hb'⟩
  ·rintro e X' ⟨rfl, hc', hbs⟩
   have hblk : ∀ b, b < X.heap.size → b ≠ w.heap.size + 2 → X'.heap[b]? = X.heap[b]? := fun b hb' hn => hbs.block b hb' hn
   have hb' : Below w.heap.size w X' := ⟨hbs.os.trans hj.2.2.os, hbs.tape.trans hj.2.2.tape, hbs.output.trans hj.2.2.output, Nat.le_trans hj.2.2.size hbs.size, fun b hb' => (hblk b (by omega) (by omega)).trans (hj.2.2.block b hb')⟩
   refine ⟨?_, hblk _ (by omega) (by omega), hblk _ (by omega) (by omega), hblk _ (by omega) (by omega)⟩
   cases he : eqK l1 l2 k
   ·exact .inr ⟨rfl, eqvM_false h1.sorted h2.sorted hk he, hb'⟩
   ·refine .inl ⟨rfl, fun x hx => ?_, hc', hb'⟩
    rcases List.mem_append.1 hx with hx | hx
    ·exact hj.1 x hx
    ·rw [List.mem_singleton.1 hx]; exact he
 ·rintro e w' (⟨rfl, vis, hp, hall, _, hb'⟩ | ⟨rfl, hf, hb'⟩)
  ·have : T.eqvM l1 l2 = true := (eqvM_iff' h1.sorted h2.sorted).2 ⟨hl, fun k hk => hall k (hp.mem_iff.2 hk)⟩
   rw [this]
   exact ⟨rfl, hb'⟩
  ·rw [hf]
   exact ⟨rfl, hb'⟩

set_option maxRecDepth 100000 in
set_option maxHeartbeats 1000000 in
theorem mapEquals_calls {l1 l2 : List (ByteArray × T)} (hok : ∀ k a, (k, a) ∈ l1 → ∀ j b, (j, b) ∈ l2 → EqvOK a b) {r1 r2 : Nat} {val1 val2 : ByteArray → Value} {w : World} (h1 : MapAt (Old w) w r1 l1 val1) (h2 : MapAt (Old w) w r2 l2 val2) (pa : Addr) :
  Calls Tryz.prog 341 #[.map (some r1), .iface 303 (.pointer (some pa)), .iface 453 (.map (some r2))] w (EqPost (T.eqvM l1 l2) w) := by
 have Hm : ∀ W, Below w.heap.size w W → Hid (MapAt (Old w) W r1 l1 val1 ∧ MapAt (Old w) W r2 l2 val2) := fun W hb => hide ⟨h1.below (fun _ h => h) hb, h2.below (fun _ h => h) hb⟩
 by_cases hl : l1.length = l2.length
 ·by_cases hn : l2 = []
  ·subst hn
   have hl1 : l1 = [] := List.eq_nil_of_length_eq_zero (by simpa using hl)
   subst hl1
   rw [T.eqvM]
   clear hl hok h1 h2
   go_enter_defers Tryz.func341, Tryz.ntmps341
   go_wp2_with fail
   refine (mapLength_calls (Hm _ (((Below.refl _ _).alloc (Nat.le_refl _) _).alloc (by simp) _)).out.1.is_).mono ?_
   rintro e w1 ⟨rfl, rfl⟩
   go_wp2_with fail
   refine (mapLength_calls (Hm _ (((Below.refl _ _).alloc (Nat.le_refl _) _).alloc (by simp) _)).out.2.is_).mono ?_
   rintro e w1 ⟨rfl, rfl⟩
   go_wp2
   exact ⟨_, results_tmp rfl _ _ _, rfl, ((Below.refl _ _).alloc (Nat.le_refl _) _).alloc (by simp) _⟩
  ·obtain ⟨c, hcv⟩ : ∃ c, T.eqvM l1 l2 = c := ⟨_, rfl⟩
   have Hit : ∀ W, EqCells w.heap.size r1 pa W → Below w.heap.size w W → w.heap.size + 4 ≤ W.heap.size → Hid (Calls Tryz.prog 346 #[.map (some r2), .iface 303 (.pointer (some pa)), .func (.func 351) #[] #[.pointer (some ⟨w.heap.size, 0, none⟩), .pointer (some ⟨w.heap.size + 1, 0, none⟩), .pointer (some ⟨w.heap.size + 3, 0, none⟩)]] W
     (EqPost c w)) := fun W hc hb hs => hide (hcv ▸ meIterate hok h1 h2 hl hn pa hc hb hs)
   rw [hcv]
   have hi : (l1.length : Int) = (l2.length : Int) := by omega
   have hi1 : ¬ (l2.length : Int) = 0 := fun h => hn (List.eq_nil_of_length_eq_zero (by omega))
   have HW := hide (meWorld w r1 pa)
   clear hcv hok h1 h2 hl hn
   go_enter_defers Tryz.func341, Tryz.ntmps341
   go_wp2_with fail
   refine (mapLength_calls (Hm _ (((Below.refl _ _).alloc (Nat.le_refl _) _).alloc (by simp) _)).out.1.is_).mono ?_
   rintro e w1 ⟨rfl, rfl⟩
   go_wp2_with fail
   refine (mapLength_calls (Hm _ (((Below.refl _ _).alloc (Nat.le_refl _) _).alloc (by simp) _)).out.2.is_).mono ?_
   rintro e w1 ⟨rfl, rfl⟩
   go_wp2_with fail
   refine (allocVu_calls _ _).mono ?_
   rintro e w1 ⟨rfl, rfl⟩
   go_wp2_with fail
   generalize hW4 : World.alloc _ _ = W4
   have hW : EqCells w.heap.size r1 pa W4 ∧ Below w.heap.size w W4 ∧ w.heap.size + 4 ≤ W4.heap.size := by rw [← hW4]; exact ⟨HW.out.1, HW.out.2, by simp⟩
   have qa := hW.1.a.cell 0
   have qp := hW.1.p.cell 0
   simp at qa qp
   have HW2 := hide hW
   clear hW hW4 HW Hm hi hi1
   go_still_tail 4, (by kernel_rfl)
   change wpList _ _ _ _ _ W4.drew
   go_wp2_with fail
   have hcall := (Hit W4.drew ⟨HW2.out.1.m, HW2.out.1.a, HW2.out.1.v, HW2.out.1.p⟩ ⟨HW2.out.2.1.os, HW2.out.2.1.tape, HW2.out.2.1.output, HW2.out.2.1.size, HW2.out.2.1.block⟩ HW2.out.2.2).out
   refine hcall.mono ?_
   clear hcall
   rintro e w2 ⟨rfl, hb2⟩
   have Hb2 := hide hb2
   clear hb2
   go_wp2_with fail
   refine leaves_cons (f := 323) (args := #[.pointer (some pa), .iface 302 (.pointer (some ⟨w.heap.size + 2, 0, none⟩))]) (by simp) (by simp [go_sem, meth_Free]) ?_
   refine (free_deferred pa _ .returning _).mono ?_
   rintro e u' w' ⟨rfl, rfl, rfl⟩
   exact ⟨_, results_tmp rfl _ _ _, rfl, Hb2.out⟩
 ·have hf : T.eqvM l1 l2 = false := by
   rw [Bool.eq_false_iff]
   exact fun h => hl ((eqvM_iff' h1.sorted h2.sorted).1 h).1
  rw [hf]
  have hi : ¬ (l1.length : Int) = (l2.length : Int) := by omega
  clear hok h1 h2 hl hf
  go_enter_defers Tryz.func341, Tryz.ntmps341
  go_wp2_with fail
  refine (mapLength_calls (Hm _ (((Below.refl _ _).alloc (Nat.le_refl _) _).alloc (by simp) _)).out.1.is_).mono ?_
  rintro e w1 ⟨rfl, rfl⟩
  go_wp2_with fail
  refine (mapLength_calls (Hm _ (((Below.refl _ _).alloc (Nat.le_refl _) _).alloc (by simp) _)).out.2.is_).mono ?_
  rintro e w1 ⟨rfl, rfl⟩
  go_wp2
  exact ⟨_, results_tmp rfl _ _ _, rfl, ((Below.refl _ _).alloc (Nat.le_refl _) _).alloc (by simp) _⟩

end Go.Proofs.YtbicoknghdgahaaGreat

namespace Go.Proofs.YtbicoknghdgahaaGreat
open Go.RowKit
theorem meth_MEqualsUsing (n : Nat) (v : Value) (w : World) : (method (n + 1) 453 v "EqualsUsing").run Tryz.prog w = .ok (341, v) w := by kernel_rfl
attribute [local go_sem] run_store_float run_load_k meth_IsNull meth_IsFloat meth_IsInt meth_IsString meth_IsBool meth_IsList meth_IsMap meth_AsMapUsing meth_AsListUsing meth_Free meth_LEqualsUsing meth_MEqualsUsing

attribute [local go_sem] T.isNull T.isFlt T.isInt T.isStr T.isBool T.isList T.isMap

theorem listEqualsUsing_calls (l1 l2 : List T) (hok : ∀ a ∈ l1, ∀ b ∈ l2, EqvOK a b) (A1 A2 : Option Addr) (c1 c2 : Nat) (xs1 xs2 : List Value) (pa : Addr) (w : World) (hb1 : l1.length * 88 ≤ R47)
  (hr1 : Row (Old w) w 1 A1 l1.length xs1) (hr2 : Row (Old w) w 1 A2 l2.length xs2) (hx1 : AnysAt (Old w) w l1 xs1) (hx2 : AnysAt (Old w) w l2 xs2) :
  Calls Tryz.prog 333 #[.slice A1 l1.length c1, .iface 303 (.pointer (some pa)), .iface 452 (.slice A2 l2.length c2)] w (EqPost (T.eqvL l1 l2) w) := by
 have hk : ∀ o, Keeps (Old w) w (w.alloc o) := fun o => Keeps.alloc w o fun _ h => h
 have hm : ∀ o b, Old w b → Old (w.alloc o) b := fun o b h => Nat.lt_of_lt_of_le h (by simp)
 have H := fun o (hp : Bk (w.alloc o) w.heap.size 452 #[.slice A1 l1.length c1]) => hide (listEquals_callsP l1 l2 hok w.heap.size A1 A2 c1 c2 xs1 xs2 pa (w.alloc o) hb1 ((hr1.keeps (hk o)).mono (hm o)) ((hr2.keeps (hk o)).mono (hm o)) (hx1.keeps (hk o) (hm o)) (hx2.keeps (hk o) (hm o)) hp)
 generalize T.eqvL l1 l2 = d at H
 clear hok hr1 hr2 hx1 hx2 hk hm
 go_enter Tryz.func333, Tryz.ntmps333
 go_wp2_with fail
 refine (H _ (Bk.new w _ _)).out.mono ?_
 clear H
 rintro e w2 ⟨rfl, hb⟩
 have Hb := hide (((Below.refl _ _).alloc (Nat.le_refl _) _).trans (hb.mono (by simp)))
 clear hb
 go_wp2
 go_ret
 exact ⟨rfl, Hb.out⟩

set_option maxRecDepth 100000 in
set_option maxHeartbeats 4000000 in
theorem equalsLL (l1 l2 : List T) (hok : ∀ a ∈ l1, ∀ b ∈ l2, EqvOK a b) : EqvOK (.list l1) (.list l2) := by
 intro w pa v1 v2 h1 h2
 obtain ⟨p, u, rfl, hpl, hB, hu⟩ := h1
 obtain ⟨q, v, rfl, hql, hC, hv⟩ := h2
 have hc := hB.cell 0
 have hd := hC.cell 0
 simp at hc hd
 clear hB hC
 simp only [Old] at hpl hql
 have hst : St2 w p q u v w := ⟨hc, hd, Below.refl _ _⟩
 rw [T.eqv]
 obtain ⟨c, hcv⟩ : ∃ c, T.eqvL l1 l2 = c := ⟨_, rfl⟩
 rw [hcv]
 have Hc := hide hcv
 clear hcv
 have Hok := hide hok
 have Hu := hide hu
 have Hv := hide hv
 clear hok
 cases hu with
 | @list _ A1 c1 xs1 a1 a2 a3 a4 a5 =>
 cases hv with
 | @list _ A2 c2 xs2 b1 b2 b3 b4 b5 =>
 have Ha := hide (And.intro a1 (And.intro a4 a5))
 have Hb := hide (And.intro b1 (And.intro b4 b5))
 clear a1 a2 a3 a4 a5 b1 b2 b3 b4 b5
 go_enter_defers Tryz.func199, Tryz.ntmps199
 go_wp2_with fail
 refine (St2.call hst hpl hql (IsFloat_calls Hu.out _)).mono ?_
 rintro e w1 ⟨rfl, hst⟩
 have hc := hst.1
 have hd := hst.2.1
 go_wp2_with fail
 refine (St2.call hst hpl hql (IsFloat_calls Hv.out _)).mono ?_
 rintro e w1 ⟨rfl, hst⟩
 have hc := hst.1
 have hd := hst.2.1
 go_wp2_with fail
 refine (St2.call hst hpl hql (IsInt_calls Hu.out _)).mono ?_
 rintro e w1 ⟨rfl, hst⟩
 have hc := hst.1
 have hd := hst.2.1
 go_wp2_with fail
 refine (St2.call hst hpl hql (IsInt_calls Hv.out _)).mono ?_
 rintro e w1 ⟨rfl, hst⟩
 have hc := hst.1
 have hd := hst.2.1
 go_wp2_with fail
 refine (St2.call hst hpl hql (IsString_calls Hu.out _)).mono ?_
 rintro e w1 ⟨rfl, hst⟩
 have hc := hst.1
 have hd := hst.2.1
 go_wp2_with fail
 refine (St2.call hst hpl hql (IsString_calls Hv.out _)).mono ?_
 rintro e w1 ⟨rfl, hst⟩
 have hc := hst.1
 have hd := hst.2.1
 go_wp2_with fail
 refine (St2.call hst hpl hql (IsBool_calls Hu.out _)).mono ?_
 rintro e w1 ⟨rfl, hst⟩
 have hc := hst.1
 have hd := hst.2.1
 go_wp2_with fail
 refine (St2.call hst hpl hql (IsBool_calls Hv.out _)).mono ?_
 rintro e w1 ⟨rfl, hst⟩
 have hc := hst.1
 have hd := hst.2.1
 go_wp2_with fail
 refine (St2.call hst hpl hql (IsList_calls Hu.out _)).mono ?_
 rintro e w1 ⟨rfl, hst⟩
 have hc := hst.1
 have hd := hst.2.1
 go_wp2_with fail
 refine (St2.call hst hpl hql (IsList_calls Hv.out _)).mono ?_
 rintro e w1 ⟨rfl, hst⟩
 have hc := hst.1
 have hd := hst.2.1
 go_wp2_with fail
 refine (St2.call hst hpl hql (AsListUsing_calls _ _ _ _ _)).mono ?_
 rintro e w1 ⟨rfl, hst⟩
 have hc := hst.1
 have hd := hst.2.1
 go_wp2_with fail
 refine (St2.call hst hpl hql (AsListUsing_calls _ _ _ _ _)).mono ?_
 rintro e w1 ⟨rfl, hst⟩
 have hc := hst.1
 have hd := hst.2.1
 have Hb1 := hide hst.2.2
 go_wp2_with fail
 have hk : Keeps (Old w) w w1 := Keeps.below Hb1.out fun _ hx => hx
 have hm : ∀ b, Old w b → Old w1 b := fun _ hx => Nat.lt_of_lt_of_le hx Hb1.out.size
 have hfin := listEqualsUsing_calls l1 l2 Hok.out A1 A2 c1 c2 xs1 xs2 pa w1 Ha.out.1 ((Ha.out.2.1.keeps hk).mono hm) ((Hb.out.2.1.keeps hk).mono hm)
  (fun i t u ht hu => ((Ha.out.2.2 i t u ht hu).keeps hk).mono hm) (fun i t u ht hu => ((Hb.out.2.2 i t u ht hu).keeps hk).mono hm)
 rw [Hc.out] at hfin
 refine hfin.mono ?_
 clear hfin hk hm
 rintro e w2 ⟨rfl, hb2⟩
 have Hb2 := hide (Hb1.out.trans (hb2.mono Hb1.out.size))
 clear hb2
 go_wp2_with fail
 refine leaves_cons (f := 323) (args := #[.pointer (some pa), .iface 452 (.slice A2 l2.length c2)]) (by simp) (by simp [go_sem, meth_Free]) ?_
 refine (free_deferred pa _ .returning _).mono ?_
 rintro e u' w' ⟨rfl, rfl, rfl⟩
 refine leaves_cons (f := 323) (args := #[.pointer (some pa), .iface 452 (.slice A1 l1.length c1)]) (by simp [settle]) (by simp [go_sem, meth_Free]) ?_
 refine (free_deferred pa _ .returning _).mono ?_
 rintro e u' w' ⟨rfl, rfl, rfl⟩
 exact ⟨_, results_tmp rfl _ _ _, rfl, Hb2.out⟩

set_option maxRecDepth 100000 in
set_option maxHeartbeats 4000000 in
theorem equalsMM (l1 l2 : List (ByteArray × T)) (hok : ∀ k a, (k, a) ∈ l1 → ∀ j b, (j, b) ∈ l2 → EqvOK a b) : EqvOK (.map l1) (.map l2) := by
 intro w pa v1 v2 h1 h2
 obtain ⟨p, u, rfl, hpl, hB, hu⟩ := h1
 obtain ⟨q, v, rfl, hql, hC, hv⟩ := h2
 have hc := hB.cell 0
 have hd := hC.cell 0
 simp at hc hd
 clear hB hC
 simp only [Old] at hpl hql
 have hst : St2 w p q u v w := ⟨hc, hd, Below.refl _ _⟩
 rw [T.eqv]
 obtain ⟨c, hcv⟩ : ∃ c, T.eqvM l1 l2 = c := ⟨_, rfl⟩
 rw [hcv]
 have Hc := hide hcv
 clear hcv
 have Hok := hide hok
 have Hu := hide hu
 have Hv := hide hv
 clear hok
 obtain ⟨r1, val1, rfl, hm1⟩ := MapAt.of_any hu
 obtain ⟨r2, val2, rfl, hm2⟩ := MapAt.of_any hv
 have Ha := hide (And.intro hm1 hm2)
 clear hm1 hm2 hu hv
 go_enter_defers Tryz.func199, Tryz.ntmps199
 go_wp2_with fail
 refine (St2.call hst hpl hql (IsFloat_calls Hu.out _)).mono ?_
 rintro e w1 ⟨rfl, hst⟩
 have hc := hst.1
 have hd := hst.2.1
 go_wp2_with fail
 refine (St2.call hst hpl hql (IsFloat_calls Hv.out _)).mono ?_
 rintro e w1 ⟨rfl, hst⟩
 have hc := hst.1
 have hd := hst.2.1
 go_wp2_with fail
 refine (St2.call hst hpl hql (IsInt_calls Hu.out _)).mono ?_
 rintro e w1 ⟨rfl, hst⟩
 have hc := hst.1
 have hd := hst.2.1
 go_wp2_with fail
 refine (St2.call hst hpl hql (IsInt_calls Hv.out _)).mono ?_
 rintro e w1 ⟨rfl, hst⟩
 have hc := hst.1
 have hd := hst.2.1
 go_wp2_with fail
 refine (St2.call hst hpl hql (IsString_calls Hu.out _)).mono ?_
 rintro e w1 ⟨rfl, hst⟩
 have hc := hst.1
 have hd := hst.2.1
 go_wp2_with fail
 refine (St2.call hst hpl hql (IsString_calls Hv.out _)).mono ?_
 rintro e w1 ⟨rfl, hst⟩
 have hc := hst.1
 have hd := hst.2.1
 go_wp2_with fail
 refine (St2.call hst hpl hql (IsBool_calls Hu.out _)).mono ?_
 rintro e w1 ⟨rfl, hst⟩
 have hc := hst.1
 have hd := hst.2.1
 go_wp2_with fail
 refine (St2.call hst hpl hql (IsBool_calls Hv.out _)).mono ?_
 rintro e w1 ⟨rfl, hst⟩
 have hc := hst.1
 have hd := hst.2.1
 go_wp2_with fail
 refine (St2.call hst hpl hql (IsList_calls Hu.out _)).mono ?_
 rintro e w1 ⟨rfl, hst⟩
 have hc := hst.1
 have hd := hst.2.1
 go_wp2_with fail
 refine (St2.call hst hpl hql (IsList_calls Hv.out _)).mono ?_
 rintro e w1 ⟨rfl, hst⟩
 have hc := hst.1
 have hd := hst.2.1
 go_wp2_with fail
 refine (St2.call hst hpl hql (IsMap_calls Hu.out _)).mono ?_
 rintro e w1 ⟨rfl, hst⟩
 have hc := hst.1
 have hd := hst.2.1
 go_wp2_with fail
 refine (St2.call hst hpl hql (IsMap_calls Hv.out _)).mono ?_
 rintro e w1 ⟨rfl, hst⟩
 have hc := hst.1
 have hd := hst.2.1
 go_wp2_with fail
 refine (St2.call hst hpl hql (AsMapUsing_calls _ _ _)).mono ?_
 rintro e w1 ⟨rfl, hst⟩
 have hc := hst.1
 have hd := hst.2.1
 go_wp2_with fail
 refine (St2.call hst hpl hql (AsMapUsing_calls _ _ _)).mono ?_
 rintro e w1 ⟨rfl, hst⟩
 have hc := hst.1
 have hd := hst.2.1
 have Hb1 := hide hst.2.2
 go_wp2_with fail
 have hk : Keeps (Old w) w w1 := Keeps.below Hb1.out fun _ hx => hx
 have hm : ∀ b, Old w b → Old w1 b := fun _ hx => Nat.lt_of_lt_of_le hx Hb1.out.size
 have hfin := mapEquals_calls Hok.out ((Ha.out.1.keeps hk).mono hm) ((Ha.out.2.keeps hk).mono hm) pa
 rw [Hc.out] at hfin
 refine hfin.mono ?_
 clear hfin hk hm
 rintro e w2 ⟨rfl, hb2⟩
 have Hb2 := hide (Hb1.out.trans (hb2.mono Hb1.out.size))
 clear hb2
 go_wp2_with fail
 refine leaves_cons (f := 323) (args := #[.pointer (some pa), .iface 453 (.map (some r2))]) (by simp) (by simp [go_sem, meth_Free]) ?_
 refine (free_deferred pa _ .returning _).mono ?_
 rintro e u' w' ⟨rfl, rfl, rfl⟩
 refine leaves_cons (f := 323) (args := #[.pointer (some pa), .iface 453 (.map (some r1))]) (by simp [settle]) (by simp [go_sem, meth_Free]) ?_
 refine (free_deferred pa _ .returning _).mono ?_
 rintro e u' w' ⟨rfl, rfl, rfl⟩
 exact ⟨_, results_tmp rfl _ _ _, rfl, Hb2.out⟩

theorem eqv_all (a b : T) : EqvOK a b := by
 induction h : a.rank using Nat.strongRecOn generalizing a b with
 | ind n ih =>
 subst h
 intro w pa v1 v2 h1 h2
 cases a with
 | null => exact equalsNull pa h1 h2 (fun _ h => h) (fun _ h => h)
 | bool x => exact equalsBool x pa h1 h2 (fun _ h => h) (fun _ h => h)
 | int x => exact equalsInt x pa h1 h2 (fun _ h => h) (fun _ h => h)
 | flt x => exact equalsFlt x pa h1 h2 (fun _ h => h) (fun _ h => h)
 | str x => exact equalsStr x pa h1 h2 (fun _ h => h) (fun _ h => h)
 | list l =>
  cases b with
  | list m => exact equalsLL l m (fun a ha b _ => ih _ (T.rank_list ha) a b rfl) w pa v1 v2 h1 h2
  | _ => exact equalsList l (by rfl) pa h1 h2 (fun _ h => h) (fun _ h => h)
 | map l =>
  cases b with
  | map m => exact equalsMM l m (fun k a ha j b _ => ih _ (T.rank_map ha) a b rfl) w pa v1 v2 h1 h2
  | _ => exact equalsMap l (by rfl) pa h1 h2 (fun _ h => h) (fun _ h => h)

end Go.Proofs.YtbicoknghdgahaaGreat

namespace Go.Proofs.YtbicoknghdgahaaGreat
open Go.RowKit

theorem equalsV_calls {a b : T} {v1 v2 : Value} {w : World} (h1 : ValAt (Old w) w a v1) (h2 : ValAt (Old w) w b v2) : Calls Tryz.prog 154 #[v1, v2] w (EqPost (T.eqv a b) w) := by
 have hb0 : ∀ o : Obj, Below w.heap.size w (w.alloc o) := fun o => (Below.refl _ _).alloc (Nat.le_refl _) _
 have Hc := fun o => hide (eqv_all a b (w.alloc o) ⟨w.heap.size, 0, none⟩ v1 v2 (h1.at_ (hb0 o)) (h2.at_ (hb0 o)))
 generalize T.eqv a b = c at Hc
 clear h1 h2
 go_enter Tryz.func154, Tryz.ntmps154
 go_wp2_with fail
 refine (Hc _).out.mono ?_
 rintro e w1 ⟨rfl, hb⟩
 have Hb := hide ((hb0 _).trans (hb.mono (by simp)))
 clear hb Hc hb0
 go_wp2
 go_ret
 exact ⟨rfl, Hb.out⟩

end Go.Proofs.YtbicoknghdgahaaGreat

namespace Go.Proofs.YtbicoknghdgahaaGreat
open Go.RowKit


end Go.Proofs.YtbicoknghdgahaaGreat

namespace Go.Proofs.YtbicoknghdgahaaGreat
open Go.RowKit
attribute [local go_sem] run_store_float

end Go.Proofs.YtbicoknghdgahaaGreat

namespace Go.Proofs.YtbicoknghdgahaaGreat
open Go.RowKit

end Go.Proofs.YtbicoknghdgahaaGreat

namespace Go.Proofs.YtbicoknghdgahaaGreat
open Go.RowKit
attribute [local go_sem] run_store_float

theorem eqvM_step {l1 l2 : List (ByteArray × T)} {k : Nat} (h1 : k < l1.length) (h2 : k < l2.length) : T.eqvM (l1.drop k) (l2.drop k) = (decide (l1[k].1 = l2[k].1) && (T.eqv l1[k].2 l2[k].2 && T.eqvM (l1.drop (k + 1)) (l2.drop (k + 1)))) := by
 rw [List.drop_eq_getElem_cons h1, List.drop_eq_getElem_cons h2, T.eqvM]

def FLE (l1 l2 : List (ByteArray × T)) (d : Bool) (w : World) (s : Value) (W : World) : Prop := ∃ k : Nat, s = .int .i64 (k : Int) ∧ k ≤ l1.length ∧ T.eqvM (l1.drop k) (l2.drop k) = d ∧ Below w.heap.size w W

set_option maxRecDepth 100000 in
set_option maxHeartbeats 4000000 in
theorem flEquals_calls {l1 l2 : List (ByteArray × T)} {A1 A2 : Option Addr} {c1 c2 : Nat} {w : World} (h1 : FLAt (Old w) w l1 A1 c1) (h2 : FLAt (Old w) w l2 A2 c2) :
  Calls Tryz.prog 153 #[.slice A1 l1.length c1, .slice A2 l2.length c2] w (EqPost (T.eqvM l1 l2) w) := by
 obtain ⟨_, _, hb1, xs1, hr1, hx1⟩ := h1
 obtain ⟨_, _, hb2, xs2, hr2, hx2⟩ := h2
 have hn1 : l1.length ≤ 8796093022208 := by unfold R47 at hb1; omega
 have hn2 : l2.length ≤ 8796093022208 := by unfold R47 at hb2; omega
 have H1 := hide (And.intro hr1 hx1)
 have H2 := hide (And.intro hr2 hx2)
 obtain ⟨d, hd⟩ : ∃ d, T.eqvM l1 l2 = d := ⟨_, rfl⟩
 rw [hd]
 have Hd := hide hd
 clear hr1 hx1 hr2 hx2 hb1 hb2 hd
 by_cases hll : l1.length = l2.length
 case neg =>
  have hd0 : d = false := by
   rw [← Hd.out]
   have : ¬ T.eqvM l1 l2 = true := fun h => hll (by have := eqvM_keys h; simpa using congrArg List.length this)
   simpa using this
  subst hd0
  have hli : ¬ (l1.length : Int) = (l2.length : Int) := by omega
  go_enter Tryz.func153, Tryz.ntmps153
  go_wp2
  go_ret
  exact ⟨rfl, Below.refl _ _⟩
 rw [← hll] at H2 ⊢
 have Hll := hide hll
 clear hll hn2
 go_enter Tryz.func153, Tryz.ntmps153
 go_wp2_with fail
 go_loopw [13] (fun s W => FLE l1 l2 d w s W) (fun s _ => l1.length - (intOf s).toNat)
 case atStart => exact ⟨0, rfl, Nat.zero_le _, by simpa using Hd.out, Below.refl _ _⟩
 case round =>
  obtain ⟨k, rfl, hk1, hkd, hb⟩ := hrel
  have hki0 : (0 : Int) ≤ (k : Int) := Int.natCast_nonneg _
  by_cases e1 : k < l1.length
  ·have hki1 : (k : Int) < (l1.length : Int) := by omega
   have e2 : k < l2.length := by rw [← Hll.out]; exact e1
   rw [eqvM_step e1 e2] at hkd
   obtain ⟨g1, hc1, hs1, hv1⟩ := H1.out.2.at_ e1
   obtain ⟨g2, hc2, hs2, hv2⟩ := H2.out.2.at_ e2
   obtain ⟨b1, o1, rfl, hF1, hg1⟩ := rown_at H1.out.1 e1 hc1
   obtain ⟨b2, o2, rfl, hF2, hg2⟩ := rown_at H2.out.1 e1 hc2
   have p0 := hg1 0 _ rfl
   have p1 := hg1 1 _ rfl
   have q0 := hg2 0 _ rfl
   have q1 := hg2 1 _ rfl
   rw [← (bcell hb).1 _ _ hF1] at p0 p1
   rw [← (bcell hb).1 _ _ hF2] at q0 q1
   rw [Nat.add_zero] at p0 q0
   have hcmp := fun (W : World) (hb : Below w.heap.size w W) => equalsV_calls (hv1.at_ hb) (hv2.at_ hb)
   generalize l1[k] = a at *
   generalize l2[k] = b at *
   obtain ⟨ka, ta⟩ := a
   obtain ⟨kb, tb⟩ := b
   simp only at p0 p1 q0 q1 hkd hcmp
   obtain ⟨y, hy⟩ : ∃ y, T.eqv ta tb = y := ⟨_, rfl⟩
   rw [hy] at hkd hcmp
   have Hcmp := hide hcmp
   have hl1 : b1 < w.heap.size := hF1
   have hl2 : b2 < w.heap.size := hF2
   have hsw := hb.size
   have Hb := hide hb
   clear hc1 hc2 hs1 hs2 hv1 hv2 hg1 hg2 hF1 hF2 hy hcmp hb
   by_cases hx0 : ka = kb
   ·subst hx0
    rw [decide_eq_true rfl, Bool.true_and] at hkd
    have Hkd := hide hkd
    clear hkd e2
    go_wp2_with fail
    go_quiet (fail)
    go_wp2_with fail
    generalize hWW : wr.drewN _ = W2
    have hb2 : Below w.heap.size w W2 := by rw [← hWW]; exact below_drewN Hb.out _
    have r1 : W2.cell? ⟨b1, o1 + k * 2 + 1, none⟩ = some (.iface 302 (.pointer (some g1))) := by rw [← hWW]; exact p1
    have r2 : W2.cell? ⟨b2, o2 + k * 2 + 1, none⟩ = some (.iface 302 (.pointer (some g2))) := by rw [← hWW]; exact q1
    have hsz2 := hb2.size
    clear hWW p0 p1 q0 q1 Hb hsw
    have hS0 : FLS b1 o1 b2 o2 k (.iface 302 (.pointer (some g1))) (.iface 302 (.pointer (some g2))) W2.drew := ⟨r1, r2⟩
    obtain ⟨S, hS⟩ : ∃ S, FLS b1 o1 b2 o2 k (.iface 302 (.pointer (some g1))) (.iface 302 (.pointer (some g2))) = S := ⟨_, rfl⟩
    rw [hS] at hS0
    have Hk := hide (And.intro hb2 (And.intro r1 r2))
    clear hb2 r1 r2
    refine wp_region_head 11 S (by rfl) (by kernel_rfl) ?_
    have hX := hide (show ∀ W : World, S W → W.cell? ⟨b1, o1 + k * 2 + 1, none⟩ = some (.iface 302 (.pointer (some g1))) ∧ W.cell? ⟨b2, o2 + k * 2 + 1, none⟩ = some (.iface 302 (.pointer (some g2))) from fun W hSw => by rw [← hS] at hSw; exact hSw)
    iterate 10
     refine HT.nx (v := ?_) rfl (by kernel_rfl) (fun _ _ _ h => h) (Or.inl ⟨by rfl, ?_⟩) ‹_› ?_
     rotate_left
     ·intro W hSw; have hSw := hX.out W hSw; go_simp; with_reducible rfl
     simp only [Act.put, zzA, zzZ, zzS]
    clear hX
    refine HT.one 10 rfl (by kernel_rfl) (by rfl) (fun K hK => ?_)
    go_simp
    refine (Hcmp.out W2.drew (below_drew Hk.out.1)).mono ?_
    rintro e w9 ⟨rfl, hb9⟩
    have hb9' : Below W2.heap.size W2 w9 := below_drew' hb9
    have eb := (bcell hb9').1
    go_simp
    refine hK.out _ _ (by rw [← hS]; exact ⟨(eb _ _ (by omega)).trans Hk.out.2.1, (eb _ _ (by omega)).trans Hk.out.2.2⟩) ?_
    clear hK
    refine HT.done (by kernel_rfl) ?_
    simp only [List.drop_succ_cons, List.drop_zero]
    have Hbz := hide (Hk.out.1.trans (hb9'.mono Hk.out.1.size))
    clear hb9 hb9' hS0 hS Hk eb
    cases y
    ·have hkd := Hkd.out
     rw [Bool.false_and] at hkd
     subst hkd
     go_wp2_with fail
     go_ret
     exact ⟨rfl, Hbz.out⟩
    ·have hkd := Hkd.out
     rw [Bool.true_and] at hkd
     have Hkd2 := hide hkd
     clear hkd Hkd
     go_wp2_with fail
     exact ⟨⟨k + 1, rfl, e1, Hkd2.out, Hbz.out⟩, by simp [intOf]; omega⟩
   ·have hne : (ka.toList == kb.toList) = false := by rw [str_eq]; simpa using hx0
    rw [decide_eq_false hx0, Bool.false_and] at hkd
    subst hkd
    clear e2
    go_wp2_with fail
    go_quiet (fail)
    go_wp2
    go_ret
    exact ⟨rfl, below_drewN Hb.out _⟩
  ·have hki1 : ¬ (k : Int) < (l1.length : Int) := by omega
   have hd1 : d = true := by
    rw [← hkd, show l1.drop k = [] from List.drop_of_length_le (by omega), show l2.drop k = [] from List.drop_of_length_le (by rw [← Hll.out]; omega), T.eqvM]
   subst hd1
   have Hb := hide hb
   clear hb hkd
   go_wp2
   go_ret
   exact ⟨rfl, Hb.out⟩

end Go.Proofs.YtbicoknghdgahaaGreat
