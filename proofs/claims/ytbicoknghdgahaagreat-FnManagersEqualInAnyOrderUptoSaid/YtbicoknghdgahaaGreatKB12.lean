/- Parts: FromElem, SpecWalk, ElemSetIt, ElemSetFrom, LaidP, SetM. -/
import Derived.Test.YtbicoknghdgahaaGreatKB08
set_option linter.unusedVariables false
set_option linter.unusedSimpArgs false
namespace Go.Proofs.YtbicoknghdgahaaGreat
open Go.RowKit
attribute [local go_sem] run_store_float

theorem ownsRow_keptB {base : Nat} {w w' : World} {e : TypeId} {size n : Nat} {v : Value} {xs : List Value} (h : w.ownsRow base e size v n xs) (k : ∀ b, v.ownBlock = some b → w'.heap[b]? = w.heap[b]?) : w'.ownsRow base e size v n xs := by
 obtain ⟨h1, h | ⟨g, cap, cur, rfl, h2, h3, h4⟩⟩ := h
 ·exact ⟨h1, .inl h⟩
 ·exact ⟨h1, .inr ⟨g, cap, cur, rfl, h2, (k g rfl).trans h3, h4⟩⟩

structure FK (w : World) (K : List ByteArray) (R : List RV) (KA : Option Addr) (kn kc : Nat) (LA : Option Addr) (ln lc : Nat) (us : List Value) (W : World) : Prop where
 lenK : K.length = kn
 lenR : R.length = ln
 z : Bk W (w.heap.size + 1) 29 #[.int .i64 0, .string ⟨#[]⟩, .slice none 0 0, .slice none 0 0, .int .i64 0, .int .i64 0, .float .f64 0, .string ⟨#[]⟩, .slice none 0 0, .slice none 0 0, .int .i64 0]
 o : Bk W (w.heap.size + 2) 29 #[.int .i64 1, .string ⟨#[]⟩, .slice KA kn kc, .slice LA ln lc, .int .i64 0, .int .i64 0, .float .f64 0, .string ⟨#[]⟩, .slice none 0 0, .slice none 0 0, .int .i64 0]
 kown : W.ownsRow (w.heap.size + 3) 9 1 (.slice KA kn kc) kn (K.map Value.string)
 lown : W.ownsRow (w.heap.size + 3) 27 6 (.slice LA ln lc) ln us
 sep : ∀ b, (Value.slice KA kn kc).ownBlock = some b → (Value.slice LA ln lc).ownBlock ≠ some b
 rvs : RVs (fun b => w.heap.size + 3 ≤ b ∧ b < W.heap.size ∧ some b ≠ (Value.slice KA kn kc).ownBlock ∧ some b ≠ (Value.slice LA ln lc).ownBlock) W R us
 below : Below w.heap.size w W
 size : w.heap.size + 3 ≤ W.heap.size

theorem FK.old {w W W' : World} {K : List ByteArray} {R : List RV} {KA LA : Option Addr} {kn kc ln lc : Nat} {us : List Value} (h : FK w K R KA kn kc LA ln lc us W) (hb : Below W.heap.size W W') : FK w K R KA kn kc LA ln lc us W' :=
 ⟨h.lenK, h.lenR, h.z.below hb h.z.lt, h.o.below hb h.o.lt, ownsRow_below h.kown hb (Nat.le_refl _), ownsRow_below h.lown hb (Nat.le_refl _), h.sep,
  (h.rvs.keeps (Keeps.below hb fun b hb => hb.2.1)).mono fun b hb' => ⟨hb'.1, Nat.lt_of_lt_of_le hb'.2.1 hb.size, hb'.2.2⟩, h.below.trans (hb.mono h.below.size), Nat.le_trans h.size hb.size⟩

theorem grown2_mk {W W1 W2 : World} {o i : Nat} {u : Value} {row : Option Nat} (hb : Below W.heap.size W W1) (hg : W1.grownBy W2 row) : Grown2 W (W2.setCell ⟨o, i, none⟩ u) o row :=
 ⟨(setCell_same _ _ _).1.trans (hg.os.trans hb.os), (setCell_same _ _ _).2.1.trans (hg.tape.trans hb.tape), (setCell_same _ _ _).2.2.1.trans (hg.output.trans hb.output), by rw [(setCell_same _ _ _).2.2.2]; exact Nat.le_trans hb.size hg.size,
  fun k hk hko hkr => by rw [Below.heap_setCell _ _ _ _ hko, hg.block k (Nat.lt_of_lt_of_le hk hb.size) hkr]; exact hb.block k hk⟩
theorem FK.key {w W W' : World} {K : List ByteArray} {R : List RV} {KA LA KA' : Option Addr} {kn kc ln lc kc' : Nat} {us : List Value} {x : ByteArray} (h : FK w K R KA kn kc LA ln lc us W) (hg : Grown2 W W' (w.heap.size + 2) (Value.slice KA kn kc).ownBlock)
  (ho : Bk W' (w.heap.size + 2) 29 #[.int .i64 1, .string ⟨#[]⟩, .slice KA' (kn + 1) kc', .slice LA ln lc, .int .i64 0, .int .i64 0, .float .f64 0, .string ⟨#[]⟩, .slice none 0 0, .slice none 0 0, .int .i64 0])
  (hown : W'.ownsRow (w.heap.size + 3) 9 1 (.slice KA' (kn + 1) kc') (kn + 1) (K.map Value.string ++ [.string x]))
  (hat : (Value.slice KA' (kn + 1) kc').ownBlock = (Value.slice KA kn kc).ownBlock ∨ ∃ b, (Value.slice KA' (kn + 1) kc').ownBlock = some b ∧ W.heap.size ≤ b) : FK w (K ++ [x]) R KA' (kn + 1) kc' LA ln lc us W' := by
 have hkl := h.kown.lt
 have hll := h.lown.lt
 have hs := h.size
 have hs' := hg.size
 have hL : ∀ b, (Value.slice LA ln lc).ownBlock = some b → W'.heap[b]? = W.heap[b]? := fun b hb => hg.block b (hll b hb).2 (by have := (hll b hb).1; omega) fun e => h.sep b e.symm hb
 refine ⟨by simp [h.lenK], h.lenR, ?_, ho, by simpa using hown, ownsRow_keptB h.lown hL, ?_, ?_, ?_, by omega⟩
 ·exact (hg.block _ (by omega) (by omega) fun e => by have := (hkl _ e.symm).1; omega).trans h.z
 ·intro b hb
  rcases hat with e | ⟨b', e, hb'⟩
  ·exact h.sep b (by rw [← e]; exact hb)
  ·rw [e] at hb; cases hb; intro e2; have := (hll b e2).2; omega
 ·refine (h.rvs.keeps fun b hb => hg.block b hb.2.1 (by omega) hb.2.2.1).mono fun b hb => ⟨hb.1, by have := hb.2.1; omega, ?_, hb.2.2.2⟩
  rcases hat with e | ⟨b', e, hb'⟩ <;> rw [e]
  ·exact hb.2.2.1
  ·intro e2; cases e2; have := hb.2.1; omega
 ·exact h.below.trans (hg.below (by omega) (fun b e => by have := (hkl b e).1; omega) h.below.size)
theorem FK.val {w W W1 W' : World} {K : List ByteArray} {R : List RV} {KA LA LA' : Option Addr} {kn kc ln lc lc' : Nat} {us cs : List Value} {r : RV} (h : FK w K R KA kn kc LA ln lc us W) (hg : Grown2 W W' (w.heap.size + 2) (Value.slice LA ln lc).ownBlock)
  (ho : Bk W' (w.heap.size + 2) 29 #[.int .i64 1, .string ⟨#[]⟩, .slice KA kn kc, .slice LA' (ln + 1) lc', .int .i64 0, .int .i64 0, .float .f64 0, .string ⟨#[]⟩, .slice none 0 0, .slice none 0 0, .int .i64 0])
  (hown : W'.ownsRow (w.heap.size + 3) 27 6 (.slice LA' (ln + 1) lc') (ln + 1) (us ++ cs))
  (hat : (Value.slice LA' (ln + 1) lc').ownBlock = (Value.slice LA ln lc).ownBlock ∨ ∃ b, (Value.slice LA' (ln + 1) lc').ownBlock = some b ∧ W1.heap.size ≤ b)
  (hr : RVAt (fun b => W.heap.size ≤ b ∧ b < W1.heap.size) W' r cs) (h1 : W.heap.size ≤ W1.heap.size) (h2 : W1.heap.size ≤ W'.heap.size) : FK w K (R ++ [r]) KA kn kc LA' (ln + 1) lc' (us ++ cs) W' := by
 have hkl := h.kown.lt
 have hll := h.lown.lt
 have hs := h.size
 have hs' := hg.size
 have hK : ∀ b, (Value.slice KA kn kc).ownBlock = some b → W'.heap[b]? = W.heap[b]? := fun b hb => hg.block b (hkl b hb).2 (by have := (hkl b hb).1; omega) fun e => h.sep b hb e.symm
 refine ⟨h.lenK, by simp [h.lenR], ?_, ho, ownsRow_keptB h.kown hK, hown, ?_, ?_, ?_, by omega⟩
 ·exact (hg.block _ (by omega) (by omega) fun e => by have := (hll _ e.symm).1; omega).trans h.z
 ·intro b hb
  rcases hat with e | ⟨b', e, hb'⟩
  ·rw [e]; exact h.sep b hb
  ·rw [e]; intro e2; cases e2; have := (hkl b hb).2; omega
 ·refine RVs.append ((h.rvs.keeps fun b hb => hg.block b hb.2.1 (by omega) hb.2.2.2).mono fun b hb => ⟨hb.1, by have := hb.2.1; omega, hb.2.2.1, ?_⟩) (RVs.one (hr.mono fun b hb => ⟨by omega, by omega, ?_, ?_⟩))
  ·rcases hat with e | ⟨b', e, hb'⟩ <;> rw [e]
   ·exact hb.2.2.2
   ·intro e2; cases e2; have := hb.2.1; omega
  ·intro e; have := (hkl b e.symm).2; omega
  ·rcases hat with e | ⟨b', e, hb'⟩ <;> rw [e]
   ·intro e2; have := (hll b e2.symm).2; omega
   ·intro e2; cases e2; have := hb.2; omega
 ·exact h.below.trans (hg.below (by omega) (fun b e => by have := (hll b e).1; omega) h.below.size)

def FKInv (w : World) (l : List (ByteArray × T)) (s : Value) (W : World) : Prop :=
 ∃ (k : Nat) (KA LA : Option Addr) (kc lc : Nat) (us : List Value), s = .int .i64 (k : Int) ∧ k ≤ l.length ∧ FK w ((l.take k).map Prod.fst) ((l.take k).map fun p => p.2.toRV) KA k kc LA k lc us W

def FKS (g f : Nat) (u v : Value) (W : World) : Prop := W.cell? ⟨g, 3, none⟩ = some u ∧ W.cell? ⟨f, 1, none⟩ = some v

set_option maxRecDepth 100000 in
set_option maxHeartbeats 4000000 in
theorem fromElem_key {l : List (ByteArray × T)} {cs : List Value} {w : World} (h : PEAt (Old w) w (.key l) cs) : Calls Tryz.prog 100 #[.agg cs.toArray] w (GivesEl (E.key l).toREl w) := by
 obtain ⟨i9, hi9, hz9, hs9, hb9⟩ := info_parts str_info
 obtain ⟨i26, hi26, hz26, hs26, hb26⟩ := info_parts val_info
 cases h with
 | @key _ g A c hF hbk hfl =>
 obtain ⟨f1, f2, f3, xs, f4, f5⟩ := hfl
 have hl47 : l.length * 88 ≤ 140737488351232 := f3
 have H7 := hide (And.intro f4 f5)
 have hgl : g < w.heap.size := hF
 have hkeys : ∀ k ∈ l.map Prod.fst, k.size ≤ R47 := fun k hk => by
  obtain ⟨p, hp, rfl⟩ := List.mem_map.1 hk
  obtain ⟨i, hi, rfl⟩ := List.getElem_of_mem hp
  obtain ⟨_, _, h, _⟩ := f5.at_ hi
  exact h
 have Hkeys := hide hkeys
 have m0 := hbk.cell 0
 simp at m0
 clear f3 f4 f5 hF hbk hkeys
 go_enter Tryz.func100, Tryz.ntmps100
 go_upto_region 5 with fail
 have hb0 := ((Below.refl w.heap.size w).alloc (Nat.le_refl _) (.cells #[.pointer none, .pointer (some ⟨g, 0, none⟩), .pointer none, .pointer none] 109)).alloc (by simp) (.cells #[.int .i64 0, .string ⟨#[]⟩, .slice none 0 0, .slice none 0 0, .int .i64 0, .int .i64 0, .float .f64 0, .string ⟨#[]⟩, .slice none 0 0, .slice none 0 0, .int .i64 0] 29)
 have hb1 := hb0.alloc (by simp; omega) (.cells #[.int .i64 1, .string ⟨#[]⟩, .slice none 0 0, .slice none 0 0, .int .i64 0, .int .i64 0, .float .f64 0, .string ⟨#[]⟩, .slice none 0 0, .slice none 0 0, .int .i64 0] 29)
 have hz := (Bk.new (w.alloc (.cells #[.pointer none, .pointer (some ⟨g, 0, none⟩), .pointer none, .pointer none] 109)) 29 #[.int .i64 0, .string ⟨#[]⟩, .slice none 0 0, .slice none 0 0, .int .i64 0, .int .i64 0, .float .f64 0, .string ⟨#[]⟩, .slice none 0 0, .slice none 0 0, .int .i64 0]).alloc (.cells #[.int .i64 1, .string ⟨#[]⟩, .slice none 0 0, .slice none 0 0, .int .i64 0, .int .i64 0, .float .f64 0, .string ⟨#[]⟩, .slice none 0 0, .slice none 0 0, .int .i64 0] 29)
 have ho := Bk.new ((w.alloc (.cells #[.pointer none, .pointer (some ⟨g, 0, none⟩), .pointer none, .pointer none] 109)).alloc (.cells #[.int .i64 0, .string ⟨#[]⟩, .slice none 0 0, .slice none 0 0, .int .i64 0, .int .i64 0, .float .f64 0, .string ⟨#[]⟩, .slice none 0 0, .slice none 0 0, .int .i64 0] 29)) 29 #[.int .i64 1, .string ⟨#[]⟩, .slice none 0 0, .slice none 0 0, .int .i64 0, .int .i64 0, .float .f64 0, .string ⟨#[]⟩, .slice none 0 0, .slice none 0 0, .int .i64 0]
 simp only [World.size_alloc] at hz ho
 have hX := ((Bk.new w 109 #[.pointer none, .pointer (some ⟨g, 0, none⟩), .pointer none, .pointer none]).alloc (.cells #[.int .i64 0, .string ⟨#[]⟩, .slice none 0 0, .slice none 0 0, .int .i64 0, .int .i64 0, .float .f64 0, .string ⟨#[]⟩, .slice none 0 0, .slice none 0 0, .int .i64 0] 29)).alloc (.cells #[.int .i64 1, .string ⟨#[]⟩, .slice none 0 0, .slice none 0 0, .int .i64 0, .int .i64 0, .float .f64 0, .string ⟨#[]⟩, .slice none 0 0, .slice none 0 0, .int .i64 0] 29)
 have st0 : FK w [] [] none 0 0 none 0 0 [] _ := ⟨rfl, rfl, hz, ho, by simpa using World.ownsRow_nil _ _ _ _, World.ownsRow_nil _ _ _ _, by simp [Value.ownBlock], RVs.nil_, hb1, by simp⟩
 clear hb0 hb1 hz ho
 generalize World.alloc (World.alloc (World.alloc w _) _) _ = W0 at st0 hX ⊢
 have m1 := ((bcell st0.below).1 g 0 hgl).trans m0
 have b1 := hX.cell 1
 simp at b1
 have hxl := hX.lt
 have Hst0 := hide st0
 clear st0 hX
 go_wp2_with fail
 clear m1 b1 hxl
 go_loopw [25] (fun s W => FKInv w l s W) (fun s _ => l.length - (intOf s).toNat)
 case atStart => exact ⟨0, none, none, 0, 0, [], rfl, Nat.zero_le _, by simpa using Hst0.out⟩
 case round =>
  obtain ⟨k, KA, LA, kc, lc, us, rfl, hk, st⟩ := hrel
  by_cases hlt : k < l.length
  ·have hki0 : (0 : Int) ≤ (k : Int) := Int.natCast_nonneg _
   have hki1 : (k : Int) < (l.length : Int) := by omega
   have hx := H7.out.2.at_ hlt
   have hsn : l.take (k + 1) = l.take k ++ [l[k]] := List.take_succ_eq_append_getElem hlt
   generalize l[k] = fx at *
   obtain ⟨key, t⟩ := fx
   generalize hcs : (xs.drop (k * 2)).take 2 = fcs at hx
   obtain ⟨p, rfl, hks, hv⟩ := hx
   obtain ⟨rb, ro, rfl, hF, hc⟩ := rown_at H7.out.1 hlt hcs
   have ec := (bcell st.below).1
   have q0 := (ec _ _ hF).trans (hc 0 _ rfl)
   have q1 := (ec _ _ hF).trans (hc 1 _ rfl)
   rw [Nat.add_zero] at q0
   have HV := hide fun (W : World) (hb : Below w.heap.size w W) => fromValue_calls ((hv.keeps (w' := W) (Keeps.below hb fun _ h => h)).mono (G := Old W) fun _ h => Nat.lt_of_lt_of_le h hb.size)
   have Hsn := hide (And.intro hsn hks)
   have hrb : rb < w.heap.size := hF
   have hwr := st.below.size
   have Hst := hide st
   clear st hv hcs hc ec hF hsn hks
   go_upto_region 8 with fail
   have hbA : Below wr.heap.size wr (wr.alloc (.cells #[.string key, .iface 302 (.pointer (some p))] 271)) := (Below.refl _ _).alloc (Nat.le_refl _) _
   have hfb := Bk.new wr 271 #[.string key, .iface 302 (.pointer (some p))]
   have st1 := Hst.out.old hbA
   have hkA := Hst.out.kown.lt
   have hfo : w.heap.size + 3 ≤ wr.heap.size := Hst.out.size
   clear Hst hbA q0 q1
   generalize hfg : wr.heap.size = f at *
   generalize World.alloc wr _ = w1 at st1 hfb ⊢
   have r0 := hfb.cell 0
   have r1 := hfb.cell 1
   have o2 := st1.o.cell 2
   simp at r0 r1 o2
   have hfl := hfb.lt
   have hol := st1.o.lt
   obtain ⟨kvs, hkv⟩ : ∃ kvs, ((l.take k).map Prod.fst).map Value.string = kvs := ⟨_, rfl⟩
   have hko := st1.kown
   rw [hkv] at hko
   have Hko := hide (And.intro hko hkv)
   have Hf := hide (And.intro st1 (And.intro hfb hkA))
   clear st1 hfb hkA hko hkv
   go_wp2_with (at_builtin; refine wpList_append_own_at _ rfl (.tmp 30) (.tmp 33) 24 rfl (w.heap.size + 3) 9 i9 _ 1 16 Tryz.underlying24 hi9 hz9 hs9 hb9 rfl (by omega) _ k kvs rfl ((Hko.out.1).alloc _) ⟨w1.heap.size, 0, none⟩ 1 1 [.string key] rfl rfl (cells_at _ [.string key] _ _ rfl) ?c1 ?c2 ?c3 ?c4 ?_)
   case c1 => rfl
   case c2 => unfold maxLen; omega
   case c3 => omega
   case c4 => omega
   intro out' w3 hown3 hg3 _ hat3
   obtain ⟨KA', kc', rfl, _, _⟩ := own_form hown3
   have ho3 : Bk w3 (w.heap.size + 2) 29 #[.int .i64 1, .string ⟨#[]⟩, .slice KA k kc, .slice LA k lc, .int .i64 0, .int .i64 0, .float .f64 0, .string ⟨#[]⟩, .slice none 0 0, .slice none 0 0, .int .i64 0] :=
    (Hf.out.1.o.alloc _).grown hg3 (fun e => by have := (Hf.out.1.kown.lt _ e.symm).1; omega)
   have hgr := grown2_mk (o := w.heap.size + 2) (i := 2) (u := .slice KA' (k + 1) kc') ((Below.refl w1.heap.size w1).alloc (Nat.le_refl _) _) hg3
   have ho4 := ho3.set_ 2 (.slice KA' (k + 1) kc')
   simp at ho4
   have st2 := FK.key Hf.out.1 hgr ho4 (by rw [Hko.out.2]; exact ownsRow_setCell_below hown3 (show w.heap.size + 2 < w.heap.size + 3 by omega) _) (hat3.imp id fun e => ⟨_, e, by omega⟩)
   have hfb2 : Bk (w3.setCell ⟨w.heap.size + 2, 2, none⟩ (.slice KA' (k + 1) kc')) f 271 #[.string key, .iface 302 (.pointer (some p))] := (hgr.block f hfl (by omega) (fun e => by have := (Hf.out.2.2 _ e.symm).2; omega)).trans Hf.out.2.1
   have q6 : ∀ i, w3.frozen? ⟨w.heap.size + 2, i, none⟩ = false := fun i => ho3.free i
   have q7 := ho3.cell 2
   simp at q7
   have H2 := hide (And.intro st2 hfb2)
   clear hown3 hg3 hat3 ho3 hgr ho4 st2 hfb2 Hf Hko o2 r0 r1
   go_wp2_with fail
   have h2 := H2.out
   clear H2 q6 q7
   generalize World.setCell _ _ _ = w4 at h2 ⊢
   obtain ⟨st2, hfb2⟩ := h2
   have o3 := st2.o.cell 3
   have r1 := hfb2.cell 1
   simp at o3 r1
   have hol := st2.o.lt
   have hfl := hfb2.lt
   have H2 := hide st2
   clear st2 hfb2
   have hS0 : FKS (w.heap.size + 2) f (.slice LA k lc) (.iface 302 (.pointer (some p))) w4.drew := ⟨o3, r1⟩
   obtain ⟨S, hS⟩ : ∃ S, FKS (w.heap.size + 2) f (.slice LA k lc) (.iface 302 (.pointer (some p))) = S := ⟨_, rfl⟩
   rw [hS] at hS0
   refine wp_region_head 6 S (by rfl) (by kernel_rfl) ?_
   have hX := hide (show ∀ W : World, S W → W.cell? ⟨w.heap.size + 2, 3, none⟩ = some (.slice LA k lc) ∧ W.cell? ⟨f, 1, none⟩ = some (.iface 302 (.pointer (some p))) from fun W hSw => by rw [← hS] at hSw; exact hSw)
   iterate 4
    refine HT.nx (v := ?_) rfl (by kernel_rfl) (fun _ _ _ h => h) (Or.inl ⟨by rfl, ?_⟩) ‹_› ?_
    rotate_left
    ·intro W hSw; have hSw := hX.out W hSw; go_simp; with_reducible rfl
    simp only [Act.put, zzA, zzZ, zzS]
   clear hX
   refine HT.one 4 rfl (by kernel_rfl) (by rfl) (fun K hK => ?_)
   go_simp
   refine (HV.out w4.drew (below_drew H2.out.below)).mono ?_
   rintro e w5 ⟨ccs, rfl, hcc, hb5⟩
   obtain ⟨d0, d1, d2, d3, d4, d5, rfl⟩ := hcc.six
   have hb5' : Below w4.heap.size w4 w5 := below_drew' hb5
   have hS5 : S w5 := by rw [← hS]; exact ⟨((bcell hb5').1 _ _ hol).trans o3, ((bcell hb5').1 _ _ hfl).trans r1⟩
   go_simp
   refine hK.out _ _ hS5 ?_
   clear hK K
   refine HT.one 5 rfl (by kernel_rfl) (by rfl) (fun K hK => ?_)
   go_simp
   have hs5 : w4.heap.size ≤ w5.heap.size := hb5'.size
   refine hK.out _ _ (by rw [← hS] at hS5 ⊢; exact ⟨((bcell ((Below.refl w5.heap.size w5).alloc (Nat.le_refl _) _)).1 _ _ (by omega)).trans hS5.1, ((bcell ((Below.refl w5.heap.size w5).alloc (Nat.le_refl _) _)).1 _ _ (by omega)).trans hS5.2⟩) ?_
   clear hK K
   refine HT.done (by kernel_rfl) ?_
   simp only [List.drop_succ_cons, List.drop_zero]
   have hones := (RVs.one hcc).ones
   have st5 := H2.out.old hb5'
   have H5 := hide (And.intro st5 (And.intro hb5' hcc))
   clear hS0 hS5 hS o3 r1 st5 hb5 hb5' hcc
   go_wp2_with (at_builtin; refine wpList_append_own_at _ rfl (.tmp 37) (.tmp 41) 23 rfl (w.heap.size + 3) 27 i26 _ 6 88 Tryz.underlying23 hi26 hz26 hs26 hb26 rfl (by omega) _ k us rfl ((H5.out.1.lown).alloc _) ⟨w5.heap.size, 0, none⟩ 1 1 [d0, d1, d2, d3, d4, d5] rfl rfl (cells_at _ [d0, d1, d2, d3, d4, d5] _ _ rfl) ?e1 ?e2 ?e3 ?e4 ?_)
   case e2 => unfold maxLen; omega
   case e3 => omega
   case e4 => omega
   intro out' w6 hown6 hg6 _ hat6
   obtain ⟨LA', lc', rfl, _, _⟩ := own_form hown6
   have ho6 : Bk w6 (w.heap.size + 2) 29 #[.int .i64 1, .string ⟨#[]⟩, .slice KA' (k + 1) kc', .slice LA k lc, .int .i64 0, .int .i64 0, .float .f64 0, .string ⟨#[]⟩, .slice none 0 0, .slice none 0 0, .int .i64 0] :=
    (H5.out.1.o.alloc _).grown hg6 (fun e => by have := (H5.out.1.lown.lt _ e.symm).1; omega)
   have hgr := grown2_mk (o := w.heap.size + 2) (i := 3) (u := .slice LA' (k + 1) lc') (H5.out.2.1.alloc hs5 _) hg6
   have ho7 := ho6.set_ 3 (.slice LA' (k + 1) lc')
   simp at ho7
   have hsz6 : w5.heap.size + 1 ≤ w6.heap.size := by have := hg6.size; rw [World.size_alloc] at this; exact this
   have hkR : Keeps (fun b => False ∨ Fr w4.heap.size w5 b) w5 (w6.setCell ⟨w.heap.size + 2, 3, none⟩ (.slice LA' (k + 1) lc')) := by
    rintro b (hbb | ⟨q1, q2⟩)
    ·exact hbb.elim
    rw [Below.heap_setCell _ _ _ _ (by show b ≠ w.heap.size + 2; omega), hg6.block b (by rw [World.size_alloc]; omega) (fun e => by have := (H2.out.lown.lt _ e.symm).2; omega), Below.heap_alloc _ _ _ q2]
   have st6 := FK.val (W1 := w5) H2.out hgr ho7 (ownsRow_setCell_below hown6 (show w.heap.size + 2 < w.heap.size + 3 by omega) _) (hat6.imp id fun e => ⟨_, e, by omega⟩)
    ((H5.out.2.2.keeps hkR).mono fun b hb => hb.elim (fun h => h.elim) fun h => h) hs5 (by rw [(setCell_same _ _ _).2.2.2]; omega)
   have ek : ((l.take (k + 1)).map Prod.fst) = (l.take k).map Prod.fst ++ [key] := by rw [Hsn.out.1]; simp
   have ev : ((l.take (k + 1)).map fun p => p.2.toRV) = ((l.take k).map fun p => p.2.toRV) ++ [t.toRV] := by rw [Hsn.out.1]; simp
   rw [← ek, ← ev] at st6
   have q6 : ∀ i, w6.frozen? ⟨w.heap.size + 2, i, none⟩ = false := fun i => ho6.free i
   have q7 := ho6.cell 3
   simp at q7
   have H6 := hide st6
   clear hown6 hg6 hat6 ho6 hgr ho7 st6 ek ev hkR H5 H2 hones
   go_wp2
   exact ⟨⟨k + 1, KA', LA', kc', lc', _, by go_num, by omega, H6.out⟩, by simp [intOf]; omega⟩
  ·have hke : k = l.length := by omega
   subst hke
   rw [List.take_length] at st
   have hki1 : ¬ ((l.length : Nat) : Int) < (l.length : Int) := by omega
   have hkl := st.kown.lt
   have hll := st.lown.lt
   obtain ⟨_, _, e1, hkc1, hkc2⟩ := own_form st.kown
   cases e1
   obtain ⟨_, _, e1, hlc1, hlc2⟩ := own_form st.lown
   cases e1
   have hrows : RVAt (fun b => w.heap.size + 2 ≤ b ∧ b < wr.heap.size) wr (.mk 0 0 0 ⟨#[]⟩ (l.map Prod.fst) (l.map fun p => p.2.toRV)) [.int .i64 0, .int .i64 0, .float .f64 0, .string ⟨#[]⟩, .slice KA (l.map Prod.fst).length kc, .slice LA (l.map fun p => p.2.toRV).length lc] :=
    RVAt.mk i0 i0 (by decide) (by decide) Hkeys.out (by rw [List.length_map]; unfold R47; omega) (by rw [List.length_map]; unfold R47; omega) (by rw [List.length_map]; exact hkc1) hkc2 (by rw [List.length_map]; exact hlc1) hlc2
     (by rw [List.length_map]; exact Row.of_own st.kown fun b hb => ⟨by have := (hkl b hb).1; omega, (hkl b hb).2⟩) (by rw [List.length_map]; exact Row.of_own st.lown fun b hb => ⟨by have := (hll b hb).1; omega, (hll b hb).2⟩) (st.rvs.mono fun b hb => ⟨by have := hb.1; omega, hb.2.1⟩).2
   have hel := ElemAt.mk (F := fun b => w.heap.size + 2 ≤ b ∧ b < wr.heap.size) (w := wr) (kind := 1) (n := 0) (s := ⟨#[]⟩) i1 (by decide) hrows (vNull_at _ _) i0
   rw [List.length_map, List.length_map] at hel
   have fz : ∀ i, wr.frozen? ⟨w.heap.size + 1, i, none⟩ = false := fun i => st.z.free i
   obtain ⟨p0, p1, p2, p3, p4, p5, p6, p7, p8, p9, p10⟩ := st.z.cells11
   obtain ⟨q0, q1, q2, q3, q4, q5, q6, q7, q8, q9, q10⟩ := st.o.cells11
   have Hf := hide (And.intro st.z (And.intro st.below (show ElemAt _ wr (E.key l).toREl _ from hel)))
   clear hel hrows st hkl hll hkc1 hkc2 hlc1 hlc2 H7
   go_wp2
   exact el_ret rfl _ Hf.out.1 Hf.out.2.1 Hf.out.2.2 rfl

set_option maxRecDepth 100000 in
set_option maxHeartbeats 4000000 in
theorem fromElem_calls {e : E} {cs : List Value} {w : World} (h : PEAt (Old w) w e cs) : Calls Tryz.prog 100 #[.agg cs.toArray] w (GivesEl e.toREl w) := by
 have h0 := h
 obtain ⟨c0, c1, c2, c3, rfl⟩ := h.form
 have hb0 := below_two w (.cells #[.pointer c0, .pointer c1, .pointer c2, .pointer c3] 109) (.cells #[.int .i64 0, .string ⟨#[]⟩, .slice none 0 0, .slice none 0 0, .int .i64 0, .int .i64 0, .float .f64 0, .string ⟨#[]⟩, .slice none 0 0, .slice none 0 0, .int .i64 0] 29)
 have hR := Bk.new (w.alloc (.cells #[.pointer c0, .pointer c1, .pointer c2, .pointer c3] 109)) 29 #[.int .i64 0, .string ⟨#[]⟩, .slice none 0 0, .slice none 0 0, .int .i64 0, .int .i64 0, .float .f64 0, .string ⟨#[]⟩, .slice none 0 0, .slice none 0 0, .int .i64 0]
 rw [World.size_alloc] at hR
 have hX := (Bk.new w 109 #[.pointer c0, .pointer c1, .pointer c2, .pointer c3]).alloc (.cells #[.int .i64 0, .string ⟨#[]⟩, .slice none 0 0, .slice none 0 0, .int .i64 0, .int .i64 0, .float .f64 0, .string ⟨#[]⟩, .slice none 0 0, .slice none 0 0, .int .i64 0] 29)
 have H0 := hide (And.intro hb0 (And.intro hR hX))
 clear hb0 hR hX
 cases h with
 | @key l g A c hF hbk hfl => exact fromElem_key h0
 | @field s g hs hF hbk =>
  clear h0
  have m0 := hbk.cell 0
  simp at m0
  have hgl : g < w.heap.size := hF
  have Hx := hide hs
  clear hbk hF hs
  go_enter Tryz.func100, Tryz.ntmps100
  go_upto_region 2 with fail
  have hx := H0.out
  clear H0
  have m1 := m0
  rw [← (bcell hx.1).1 _ _ hgl] at m1
  generalize World.alloc (World.alloc w _) _ = w2 at hx m1 ⊢
  obtain ⟨hb, hR, hX⟩ := hx
  have b0 := hX.cell 0
  have b1 := hX.cell 1
  have b2 := hX.cell 2
  have b3 := hX.cell 3
  simp at b0 b1 b2 b3
  have hel := ElemAt.mk (F := fun b => w.heap.size + 2 ≤ b ∧ b < w2.heap.size) (w := w2) (kind := 0) (n := 0) (s := s) i0 Hx.out (noRows_at _ _) (vNull_at _ _) i0
  have fz : ∀ i, w2.frozen? ⟨w.heap.size + 1, i, none⟩ = false := fun i => hR.free i
  obtain ⟨p0, p1, p2, p3, p4, p5, p6, p7, p8, p9, p10⟩ := hR.cells11
  have Hf := hide (And.intro hR (And.intro hb (show ElemAt _ w2 (E.field s).toREl _ from hel)))
  clear hel hR hb hX
  go_wp2
  exact el_ret rfl _ Hf.out.1 Hf.out.2.1 Hf.out.2.2 rfl
 | @val t g p hF hbk hv =>
  clear h0
  have m0 := hbk.cell 0
  simp at m0
  have hgl : g < w.heap.size := hF
  have HV := hide fun (W : World) (hb : Below w.heap.size w W) => fromValue_calls ((hv.keeps (w' := W) (Keeps.below hb fun _ h => h)).mono (G := Old W) fun _ h => Nat.lt_of_lt_of_le h hb.size)
  clear hbk hF hv
  go_enter Tryz.func100, Tryz.ntmps100
  go_upto_region 13 with fail
  have hx := H0.out
  clear H0
  have m1 := m0
  rw [← (bcell hx.1).1 _ _ hgl] at m1
  generalize World.alloc (World.alloc w _) _ = w2 at hx m1 ⊢
  obtain ⟨hb, hR, hX⟩ := hx
  have b0 := hX.cell 0
  have b1 := hX.cell 1
  have b2 := hX.cell 2
  have b3 := hX.cell 3
  simp at b0 b1 b2 b3
  have H2 := hide (And.intro hb hR)
  have hs2 := hR.lt
  clear hb hR hX
  go_wp2_with fail
  refine (HV.out _ H2.out.1).mono ?_
  rintro e w3 ⟨vs, rfl, hvs, hb3⟩
  obtain ⟨d0, d1, d2, d3, dA, dn, dc, eA, en, ec, rfl⟩ := hvs.form
  have hvs := hvs.mono (G := fun b => w.heap.size + 2 ≤ b ∧ b < w3.heap.size) fun b hb => hb.elim (fun h => h.elim) fun h => ⟨by have := h.1; omega, h.2⟩
  have hel := ElemAt.mk (F := fun b => w.heap.size + 2 ≤ b ∧ b < w3.heap.size) (w := w3) (kind := 2) (n := 0) (s := ⟨#[]⟩) ⟨by decide, by decide⟩ (by decide) (noRows_at _ _) hvs i0
  have hR3 := H2.out.2.below hb3 hs2
  have fz : ∀ i, w3.frozen? ⟨w.heap.size + 1, i, none⟩ = false := fun i => hR3.free i
  obtain ⟨p0, p1, p2, p3, p4, p5, p6, p7, p8, p9, p10⟩ := hR3.cells11
  have hbw3 := H2.out.1.trans (hb3.mono H2.out.1.size)
  have Hf := hide (And.intro hR3 (And.intro hbw3 (show ElemAt _ w3 (E.val t).toREl _ from hel)))
  clear hel hR3 hbw3 hvs hb3 H2 b0 b1 b2 b3 m0 m1
  go_wp2
  exact el_ret rfl _ Hf.out.1 Hf.out.2.1 Hf.out.2.2 rfl
 | @idx n g hn hF hbk =>
  clear h0
  have m0 := hbk.cell 0
  simp at m0
  have hgl : g < w.heap.size := hF
  have Hx := hide hn
  clear hbk hF hn
  go_enter Tryz.func100, Tryz.ntmps100
  go_upto_region 15 with fail
  have hx := H0.out
  clear H0
  have m1 := m0
  rw [← (bcell hx.1).1 _ _ hgl] at m1
  generalize World.alloc (World.alloc w _) _ = w2 at hx m1 ⊢
  obtain ⟨hb, hR, hX⟩ := hx
  have b0 := hX.cell 0
  have b1 := hX.cell 1
  have b2 := hX.cell 2
  have b3 := hX.cell 3
  simp at b0 b1 b2 b3
  have hel := ElemAt.mk (F := fun b => w.heap.size + 2 ≤ b ∧ b < w2.heap.size) (w := w2) (kind := 3) (n := n) (s := ⟨#[]⟩) ⟨by decide, by decide⟩ (by decide) (noRows_at _ _) (vNull_at _ _) Hx.out
  have fz : ∀ i, w2.frozen? ⟨w.heap.size + 1, i, none⟩ = false := fun i => hR.free i
  obtain ⟨p0, p1, p2, p3, p4, p5, p6, p7, p8, p9, p10⟩ := hR.cells11
  have Hf := hide (And.intro hR (And.intro hb (show ElemAt _ w2 (E.idx n).toREl _ from hel)))
  clear hel hR hb hX
  go_wp2
  exact el_ret rfl _ Hf.out.1 Hf.out.2.1 Hf.out.2.2 rfl

end Go.Proofs.YtbicoknghdgahaaGreat

namespace Go.Proofs.YtbicoknghdgahaaGreat
open Go.RowKit
attribute [local go_sem] run_store_float

def pelsP (ls : List (List REl)) : List (List E) := ls.map pel
end Go.Proofs.YtbicoknghdgahaaGreat

namespace Go.Proofs.YtbicoknghdgahaaGreat
open Go.RowKit
attribute [local go_sem] run_store_float

set_option maxRecDepth 100000 in
set_option maxHeartbeats 4000000 in
theorem esIterate_calls {F : Nat → Prop} {l : List E} {A : Option Addr} {c g o : Nat} {w : World} {xs : List Value} {Q : E → List Value → Prop} (m0 : w.cell? ⟨g, o, none⟩ = some (.slice A l.length c)) (hl47 : l.length * 32 ≤ R47) (hr : Row F w 4 A l.length xs) (hx : Cells 4 Q l xs) (hQl : ∀ a cs, Q a cs → ∃ p0 p1 p2 p3 : Option Addr, cs = [.pointer p0, .pointer p1, .pointer p2, .pointer p3])
  (f : FuncId) (cap : Array Value) (hcf : ∀ (args : Array Value) (W : World), (callFunc f args).run Tryz.prog W = .ok (.enter f args) W) (J : List E → World → Prop) (hJ0 : J [] w) (hJk : ∀ vis W, J vis W → Keeps F w W) (hJa : ∀ vis W o, J vis W → J vis (W.alloc o))
  (hstep : ∀ (k : Nat) a cs W, l[k]? = some a → Q a cs → J (l.take k) W → Calls Tryz.prog f (#[.agg cs.toArray] ++ cap) W fun e W' => e = .returned (.tuple #[]) ∧ J (l.take (k + 1)) W') :
  Calls Tryz.prog 213 #[.pointer (some ⟨g, o, none⟩), .func (.func f) #[] cap] w fun e w' => e = .returned (.tuple #[]) ∧ J l w' := by
 have hl47' : l.length * 32 ≤ 140737488351232 := hl47
 have H7 := hide (And.intro hr hx)
 have HJ := hide (And.intro hJ0 (And.intro hJk (And.intro hJa (And.intro hstep hQl))))
 clear hl47 hr hx hQl hJ0 hJk hJa hstep
 go_enter Tryz.func213, Tryz.ntmps213
 go_wp2_with fail
 go_loopw [11] (fun s11 W => ∃ k : Nat, s11 = .int .i64 (k : Int) ∧ k ≤ l.length ∧ J (l.take k) W) (fun s _ => l.length - (intOf s).toNat)
 case atStart => exact ⟨0, rfl, Nat.zero_le _, by simpa using HJ.out.1⟩
 case round =>
  obtain ⟨k, rfl, hk, hJ⟩ := hrel
  by_cases hlt : k < l.length
  ·have hki0 : (0 : Int) ≤ (k : Int) := Int.natCast_nonneg _
   have hki1 : (k : Int) < (l.length : Int) := by omega
   have hx := H7.out.2.at_ hlt
   have hlk : l[k]? = some l[k] := List.getElem?_eq_getElem hlt
   generalize l[k] = a at *
   generalize hcs : (xs.drop (k * 4)).take 4 = fcs at hx
   obtain ⟨c0, c1, c2, c3, rfl⟩ := HJ.out.2.2.2.2 _ _ hx
   obtain ⟨rb, ro, rfl, hF, hc⟩ := rown_at H7.out.1 hlt hcs
   have ec : ∀ o v, w.cell? ⟨rb, o, none⟩ = some v → wr.cell? ⟨rb, o, none⟩ = some v := fun o v h => by
    rw [← h]
    exact World.cell?_of_block (HJ.out.2.1 _ _ hJ rb hF)
   have q0 := ec _ _ (hc 0 _ rfl)
   have q1 := ec _ _ (hc 1 _ rfl)
   have q2 := ec _ _ (hc 2 _ rfl)
   have q3 := ec _ _ (hc 3 _ rfl)
   rw [Nat.add_zero] at q0
   have HS := hide (HJ.out.2.2.2.1 k a _ (wr.alloc (.cells #[.pointer c0, .pointer c1, .pointer c2, .pointer c3] 109)) hlk hx (HJ.out.2.2.1 _ _ _ hJ))
   clear hx hlk hcs hc ec hF hJ
   go_wp2_with fail
   refine HS.out.mono ?_
   rintro e w1 ⟨rfl, hJ1⟩
   have H1 := hide hJ1
   clear hJ1 q0 q1 q2 q3 HS
   go_wp2_with fail
   exact ⟨⟨k + 1, by go_num, by omega, H1.out⟩, by simp [intOf]; omega⟩
  ·have hke : k = l.length := by omega
   subst hke
   have hki1 : ¬ ((l.length : Nat) : Int) < (l.length : Int) := by omega
   rw [List.take_of_length_le (Nat.le_refl _)] at hJ
   have H3 := hide hJ
   clear hJ hlt
   go_wp2
   go_returns
   exact ⟨rfl, H3.out⟩

end Go.Proofs.YtbicoknghdgahaaGreat

namespace Go.Proofs.YtbicoknghdgahaaGreat
open Go.RowKit
attribute [local go_sem] run_store_float

theorem elem_info : (Tryz.prog.info? 29).map (fun i => (i.zero, i.size, i.bytes)) = some (some (.agg #[.int .i64 0, .string ⟨#[]⟩, .slice none 0 0, .slice none 0 0, .int .i64 0, .int .i64 0, .float .f64 0, .string ⟨#[]⟩, .slice none 0 0, .slice none 0 0, .int .i64 0]), 11, 168) := by kernel_rfl

def GivesEls (rs : List REl) (w : World) (en : Ending) (w' : World) : Prop := ∃ A c, en = .returned (.slice A rs.length c) ∧ PathAt (Fr w.heap.size w') w' rs A c ∧ Below w.heap.size w w'

end Go.Proofs.YtbicoknghdgahaaGreat

namespace Go.Proofs.YtbicoknghdgahaaGreat
open Go.RowKit

theorem pel_ews {l : List REl} {e : E} (h : e ∈ pel l) : EWS e := by
 obtain ⟨r, -, rfl⟩ := List.mem_map.1 h
 exact ⟨r, rfl⟩

end Go.Proofs.YtbicoknghdgahaaGreat

namespace Go.Proofs.YtbicoknghdgahaaGreat
open Go.RowKit

def KidAt (F : Nat → Prop) (w : World) (e : E) (g : Nat) (cs : List Value) : Prop := ∃ p0 p1 p2 p3 : Value, cs = [p0, p1, p2, p3, .pointer (some ⟨g, 0, none⟩)] ∧ PEAt F w e [p0, p1, p2, p3]
inductive SetM (F : Nat → Prop) (w : World) : (Nat → Prop) → Nat → St → Prop
 | mk {D : Nat → Prop} {g : Nat} {m : List E} {ks : List (E × St)} {mv kv : Value} {xs ys : List Value} {Ds : Nat → Nat → Prop} {G : Nat → Nat} :
  D g → Bk w g 130 #[mv, kv] → m.length * 32 ≤ R47 → ks.length * 40 ≤ R47 →
  w.ownsRow 0 109 4 mv m.length xs → w.ownsRow 0 214 5 kv ks.length ys →
  (∀ b, mv.ownBlock = some b → D b ∧ b ≠ g) → (∀ b, kv.ownBlock = some b → D b ∧ b ≠ g ∧ mv.ownBlock ≠ some b) →
  Cells 4 (PEAt F w) m xs → ys.length = ks.length * 5 → (∀ (i : Nat) k, ks[i]? = some k → KidAt F w k.1 (G i) ((ys.drop (i * 5)).take 5)) →
  (∀ (i : Nat) k, ks[i]? = some k → SetM F w (Ds i) (G i) k.2) →
  (∀ i b, i < ks.length → Ds i b → D b ∧ b ≠ g ∧ mv.ownBlock ≠ some b ∧ kv.ownBlock ≠ some b) →
  (∀ i j b, i < ks.length → j < ks.length → i ≠ j → Ds i b → ¬ Ds j b) → SetM F w D g (.mk m ks)
inductive SetR (F : Nat → Prop) (w : World) : Nat → St → Prop
 | mk {g : Nat} {m : List E} {ks : List (E × St)} {MA KA : Option Addr} {mc kc : Nat} {xs ys : List Value} {G : Nat → Nat} :
  F g → Bk w g 130 #[.slice MA m.length mc, .slice KA ks.length kc] → m.length * 32 ≤ R47 → ks.length * 40 ≤ R47 → m.length ≤ mc → mc ≤ maxLen → ks.length ≤ kc → kc ≤ maxLen →
  Row F w 4 MA m.length xs → Row F w 5 KA ks.length ys → Cells 4 (PEAt F w) m xs → (∀ (i : Nat) k, ks[i]? = some k → KidAt F w k.1 (G i) ((ys.drop (i * 5)).take 5)) →
  (∀ (i : Nat) k, ks[i]? = some k → SetR F w (G i) k.2) → SetR F w g (.mk m ks)

section
variable {F G : Nat → Prop} {w w' : World} {D : Nat → Prop} {g : Nat} {s : St}
theorem KidAt.keeps {e : E} {g : Nat} {cs : List Value} (h : KidAt F w e g cs) (k : Keeps F w w') : KidAt F w' e g cs := by
 obtain ⟨p0, p1, p2, p3, rfl, h⟩ := h
 exact ⟨p0, p1, p2, p3, rfl, h.keeps k⟩
theorem KidAt.mono {e : E} {g : Nat} {cs : List Value} (h : KidAt F w e g cs) (k : ∀ b, F b → G b) : KidAt G w e g cs := by
 obtain ⟨p0, p1, p2, p3, rfl, h⟩ := h
 exact ⟨p0, p1, p2, p3, rfl, h.mono k⟩
theorem ownsRow_keeps {e : TypeId} {size n : Nat} {v : Value} {xs : List Value} (h : w.ownsRow 0 e size v n xs) (k : ∀ b, v.ownBlock = some b → w'.heap[b]? = w.heap[b]?) : w'.ownsRow 0 e size v n xs := by
 obtain ⟨h1, h | ⟨g, cap, cur, rfl, h2, h3, h4⟩⟩ := h
 ·exact ⟨h1, .inl h⟩
 ·exact ⟨h1, .inr ⟨g, cap, cur, rfl, h2, (k g rfl).trans h3, h4⟩⟩
theorem SetM.keeps (h : SetM F w D g s) (kd : Keeps D w w') (kf : Keeps F w w') : SetM F w' D g s := by
 induction h with
 | @mk D g m ks mv kv xs ys Ds Gs h1 h2 h3 h4 h5 h6 h7 h8 h9 h10 h11 h12 h13 h14 ih =>
  exact .mk h1 ((kd _ h1).trans h2) h3 h4 (ownsRow_keeps h5 fun b hb => kd b (h7 b hb).1) (ownsRow_keeps h6 fun b hb => kd b (h8 b hb).1) h7 h8 (h9.mono fun _ _ h => h.keeps kf) h10 (fun i k hk => (h11 i k hk).keeps kf)
   (fun i k hk => ih i k hk fun b hb => kd b (h13 i b (List.getElem?_eq_some_iff.1 hk).1 hb).1) h13 h14
theorem SetM.mono (h : SetM F w D g s) (kp : ∀ b, F b → G b) : SetM G w D g s := by
 induction h with
 | @mk D g m ks mv kv xs ys Ds Gs h1 h2 h3 h4 h5 h6 h7 h8 h9 h10 h11 h12 h13 h14 ih =>
  exact .mk h1 h2 h3 h4 h5 h6 h7 h8 (h9.mono fun _ _ h => h.mono kp) h10 (fun i k hk => (h11 i k hk).mono kp) ih h13 h14
theorem SetM.own (h : SetM F w D g s) : D g ∧ g < w.heap.size := by
 cases h with
 | mk h1 h2 => exact ⟨h1, h2.lt⟩
theorem SetM.read (h : SetM F w D g s) (hF : ∀ b, F b → G b) (hD : ∀ b, D b → G b) : SetR G w g s := by
 induction h with
 | @mk D g m ks mv kv xs ys Ds Gs h1 h2 h3 h4 h5 h6 h7 h8 h9 h10 h11 h12 h13 h14 ih =>
  obtain ⟨MA, mc, rfl, m1, m2⟩ := own_form h5
  obtain ⟨KA, kc, rfl, k1, k2⟩ := own_form h6
  exact .mk (hD _ h1) h2 h3 h4 m1 m2 k1 k2 (Row.of_own h5 fun b hb => hD _ (h7 b hb).1) (Row.of_own h6 fun b hb => hD _ (h8 b hb).1) (h9.mono fun _ _ h => h.mono hF) (fun i k hk => (h11 i k hk).mono hF)
   (fun i k hk => ih i k hk fun b hb => hD b (h13 i b (List.getElem?_eq_some_iff.1 hk).1 hb).1)
theorem SetR.keeps (h : SetR F w g s) (k : Keeps F w w') : SetR F w' g s := by
 induction h with
 | mk h1 h2 h3 h4 h5 h6 h7 h8 h9 h10 h11 h12 h13 ih =>
  exact .mk h1 ((k _ h1).trans h2) h3 h4 h5 h6 h7 h8 (h9.keeps k) (h10.keeps k) (h11.mono fun _ _ h => h.keeps k) (fun i x hx => (h12 i x hx).keeps k) ih
theorem SetR.mono (h : SetR F w g s) (k : ∀ b, F b → G b) : SetR G w g s := by
 induction h with
 | mk h1 h2 h3 h4 h5 h6 h7 h8 h9 h10 h11 h12 h13 ih =>
  exact .mk (k _ h1) h2 h3 h4 h5 h6 h7 h8 (h9.mono k) (h10.mono k) (h11.mono fun _ _ h => h.mono k) (fun i x hx => (h12 i x hx).mono k) ih
theorem SetR.at_ (h : SetR (Old w) w g s) (hb : Below w.heap.size w w') : SetR (Old w') w' g s := (h.keeps (Keeps.below hb fun _ h => h)).mono fun _ h => Nat.lt_of_lt_of_le h hb.size
end

end Go.Proofs.YtbicoknghdgahaaGreat
