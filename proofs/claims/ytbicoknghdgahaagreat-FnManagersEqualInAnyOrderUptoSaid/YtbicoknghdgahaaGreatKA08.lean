/- Parts: CmpD, Law, ElemP, Cells, ElemM. -/
import Derived.Test.YtbicoknghdgahaaGreatKA05
import Derived.Test.YtbicoknghdgahaaGreatKA06
import Derived.Test.YtbicoknghdgahaaGreatKA07
set_option linter.unusedVariables false
set_option linter.unusedSimpArgs false
namespace Go.Proofs.YtbicoknghdgahaaGreat
open Go.RowKit
attribute [local go_sem] run_store_float run_load_k meth_allocVu meth_Free meth_Length

structure McAt (n : Nat) (pa : Addr) (i n1 n2 : Nat) (c : Int) (W : World) : Prop where
 a : Bk W n 268 #[.iface 303 (.pointer (some pa))]
 c : Bk W (n + 1) 3 #[.int .i64 c]
 ll : Bk W (n + 2) 3 #[.int .i64 (n1 : Int)]
 rl : Bk W (n + 3) 3 #[.int .i64 (n2 : Int)]
 i : Bk W (n + 4) 3 #[.int .i64 (i : Int)]
theorem McAt.below {n : Nat} {pa : Addr} {i n1 n2 : Nat} {c : Int} {W W' : World} (h : McAt n pa i n1 n2 c W) (hb : Below W.heap.size W W') : McAt n pa i n1 n2 c W' :=
 ⟨h.a.below hb h.a.lt, h.c.below hb h.c.lt, h.ll.below hb h.ll.lt, h.rl.below hb h.rl.lt, h.i.below hb h.i.lt⟩
theorem McAt.setC {n : Nat} {pa : Addr} {i n1 n2 : Nat} {c : Int} {W : World} (h : McAt n pa i n1 n2 c W) (c' : Int) : McAt n pa i n1 n2 c' (W.setCell ⟨n + 1, 0, none⟩ (.int .i64 c')) :=
 ⟨h.a.far (by simp) _, by simpa using h.c.set_ 0 (.int .i64 c'), h.ll.far (by simp) _, h.rl.far (by simp) _, h.i.far (by simp) _⟩
theorem McAt.setI {n : Nat} {pa : Addr} {i n1 n2 : Nat} {c : Int} {W : World} (h : McAt n pa i n1 n2 c W) (i' : Nat) : McAt n pa i' n1 n2 c (W.setCell ⟨n + 4, 0, none⟩ (.int .i64 (i' : Int))) :=
 ⟨h.a.far (by simp) _, h.c.far (by simp) _, h.ll.far (by simp) _, h.rl.far (by simp) _, by simpa using h.i.set_ 0 (.int .i64 (i' : Int))⟩

def McPost (n : Nat) (pa : Addr) (i n1 n2 : Nat) (c : Int) (W : World) (e : Ending) (W' : World) : Prop :=
 e = .returned (.bool (decide (c = 0))) ∧ McAt n pa (i + 1) n1 n2 c W' ∧ ButS (fun b => b = n + 1 ∨ b = n + 4) W W'
theorem ButS.two {n : Nat} {W : World} (c i : Value) : ButS (fun b => b = n + 1 ∨ b = n + 4) W ((W.setCell ⟨n + 1, 0, none⟩ c).setCell ⟨n + 4, 0, none⟩ i) :=
 ⟨rfl, rfl, rfl, by simp, fun b _ hn => (Below.heap_setCell _ _ _ _ (fun h => hn (.inr h))).trans (Below.heap_setCell _ _ _ _ (fun h => hn (.inl h)))⟩

set_option maxRecDepth 100000 in
set_option maxHeartbeats 1000000 in
theorem mcEnd1 (n : Nat) (pa : Addr) (n1 n2 : Nat) (hi : n1 ≤ 8796093022208) (k lv rv : Value) (W : World) (h : McAt n pa n1 n1 n2 0 W) :
  Calls Tryz.prog 253 #[k, lv, rv, .pointer (some ⟨n + 4, 0, none⟩), .pointer (some ⟨n + 2, 0, none⟩), .pointer (some ⟨n + 1, 0, none⟩), .pointer (some ⟨n + 3, 0, none⟩), .pointer (some ⟨n, 0, none⟩)] W (McPost n pa n1 n1 n2 (-1) W) := by
 have q1 := h.c.cell 0
 have q2 := h.ll.cell 0
 have q4 := h.i.cell 0
 simp at q1 q2 q4
 have f1 := h.c.free 0
 have f4 := h.i.free 0
 have g1 := h.c.lt
 have g4 := h.i.lt
 have H := hide h
 clear h
 go_enter Tryz.func253, Tryz.ntmps253
 go_wp2
 go_ret
 exact ⟨rfl, (H.out.setC (-1)).setI (n1 + 1), ButS.two _ _⟩

set_option maxRecDepth 100000 in
set_option maxHeartbeats 1000000 in
theorem mcEnd2 (n : Nat) (pa : Addr) (i n1 n2 : Nat) (hi : i ≤ 8796093022208) (h1 : i ≠ n1) (h2 : i = n2) (k lv rv : Value) (W : World) (h : McAt n pa i n1 n2 0 W) :
  Calls Tryz.prog 253 #[k, lv, rv, .pointer (some ⟨n + 4, 0, none⟩), .pointer (some ⟨n + 2, 0, none⟩), .pointer (some ⟨n + 1, 0, none⟩), .pointer (some ⟨n + 3, 0, none⟩), .pointer (some ⟨n, 0, none⟩)] W (McPost n pa i n1 n2 1 W) := by
 have q1 := h.c.cell 0
 have q2 := h.ll.cell 0
 have q3 := h.rl.cell 0
 have q4 := h.i.cell 0
 simp at q1 q2 q3 q4
 have f1 := h.c.free 0
 have f4 := h.i.free 0
 have g1 := h.c.lt
 have g4 := h.i.lt
 have e1 : ¬ (i : Int) = (n1 : Int) := by omega
 subst h2
 have H := hide h
 clear h
 go_enter Tryz.func253, Tryz.ntmps253
 go_wp2
 go_ret
 exact ⟨rfl, (H.out.setC 1).setI (i + 1), ButS.two _ _⟩

set_option maxRecDepth 100000 in
set_option maxHeartbeats 1000000 in
theorem mcNil1 (n : Nat) (pa : Addr) (i n1 n2 : Nat) (hi : i ≤ 8796093022208) (h1 : i ≠ n1) (h2 : i ≠ n2) (k rv : Value) (W : World) (h : McAt n pa i n1 n2 0 W) :
  Calls Tryz.prog 253 #[k, .nilIface, rv, .pointer (some ⟨n + 4, 0, none⟩), .pointer (some ⟨n + 2, 0, none⟩), .pointer (some ⟨n + 1, 0, none⟩), .pointer (some ⟨n + 3, 0, none⟩), .pointer (some ⟨n, 0, none⟩)] W (McPost n pa i n1 n2 1 W) := by
 have q1 := h.c.cell 0
 have q2 := h.ll.cell 0
 have q3 := h.rl.cell 0
 have q4 := h.i.cell 0
 simp at q1 q2 q3 q4
 have f1 := h.c.free 0
 have f4 := h.i.free 0
 have g1 := h.c.lt
 have g4 := h.i.lt
 have e1 : ¬ (i : Int) = (n1 : Int) := by omega
 have e2 : ¬ (i : Int) = (n2 : Int) := by omega
 have H := hide h
 clear h
 go_enter Tryz.func253, Tryz.ntmps253
 go_wp2
 go_ret
 exact ⟨rfl, (H.out.setC 1).setI (i + 1), ButS.two _ _⟩

set_option maxRecDepth 100000 in
set_option maxHeartbeats 1000000 in
theorem mcNil2 (n : Nat) (pa : Addr) (i n1 n2 : Nat) (hi : i ≤ 8796093022208) (h1 : i ≠ n1) (h2 : i ≠ n2) (k : Value) (p : Addr) (W : World) (h : McAt n pa i n1 n2 0 W) :
  Calls Tryz.prog 253 #[k, .iface 302 (.pointer (some p)), .nilIface, .pointer (some ⟨n + 4, 0, none⟩), .pointer (some ⟨n + 2, 0, none⟩), .pointer (some ⟨n + 1, 0, none⟩), .pointer (some ⟨n + 3, 0, none⟩), .pointer (some ⟨n, 0, none⟩)] W (McPost n pa i n1 n2 (-1) W) := by
 have q1 := h.c.cell 0
 have q2 := h.ll.cell 0
 have q3 := h.rl.cell 0
 have q4 := h.i.cell 0
 simp at q1 q2 q3 q4
 have f1 := h.c.free 0
 have f4 := h.i.free 0
 have g1 := h.c.lt
 have g4 := h.i.lt
 have e1 : ¬ (i : Int) = (n1 : Int) := by omega
 have e2 : ¬ (i : Int) = (n2 : Int) := by omega
 have H := hide h
 clear h
 go_enter Tryz.func253, Tryz.ntmps253
 go_wp2
 go_ret
 exact ⟨rfl, (H.out.setC (-1)).setI (i + 1), ButS.two _ _⟩

set_option maxRecDepth 100000 in
set_option maxHeartbeats 1000000 in
theorem mcBoth (n : Nat) (pa : Addr) (i n1 n2 : Nat) (hi : i ≤ 8796093022208) (h1 : i ≠ n1) (h2 : i ≠ n2) (k : Value) (a b : T) (hok : CmpOK a b) (lv rv : Value) (W : World) (ha : ValAt (Old W) W a lv) (hb : ValAt (Old W) W b rv) (h : McAt n pa i n1 n2 0 W) :
  Calls Tryz.prog 253 #[k, lv, rv, .pointer (some ⟨n + 4, 0, none⟩), .pointer (some ⟨n + 2, 0, none⟩), .pointer (some ⟨n + 1, 0, none⟩), .pointer (some ⟨n + 3, 0, none⟩), .pointer (some ⟨n, 0, none⟩)] W (McPost n pa i n1 n2 (T.cmp a b) W) := by
 have hcall := hok W pa lv rv ha hb
 generalize T.cmp a b = c at hcall
 have Hc := hide hcall
 clear hcall hok
 obtain ⟨p, u, rfl, _, _, _⟩ := ha
 obtain ⟨q, v, rfl, _, _, _⟩ := hb
 have q0 := h.a.cell 0
 have q2 := h.ll.cell 0
 have q3 := h.rl.cell 0
 have q4 := h.i.cell 0
 simp at q0 q2 q3 q4
 have e1 : ¬ (i : Int) = (n1 : Int) := by omega
 have e2 : ¬ (i : Int) = (n2 : Int) := by omega
 have H := hide h
 clear h
 go_enter Tryz.func253, Tryz.ntmps253
 go_wp2_with fail
 refine Hc.out.mono ?_
 rintro e w1 ⟨rfl, hb1⟩
 have h := H.out.below hb1
 clear q0 q2 q3 q4
 have q1 := h.c.cell 0
 have q4 := h.i.cell 0
 simp at q1 q4
 have f1 := h.c.free 0
 have f4 := h.i.free 0
 have g1 := h.c.lt
 have g4 := h.i.lt
 have H := hide (And.intro h hb1)
 clear h hb1
 go_wp2
 go_ret
 exact ⟨rfl, (H.out.1.setC c).setI (i + 1), (ButS.below H.out.2).trans (ButS.two _ _) fun _ _ h => h⟩

theorem mcStep {l1 l2 : List (ByteArray × T)} (hok : ∀ k a, (k, a) ∈ l1 → ∀ j b, (j, b) ∈ l2 → CmpOK a b) (n : Nat) (pa : Addr) (i : Nat) (hi : i ≤ 8796093022208) (key : ByteArray) (k lv rv : Value) (W : World) (h : McAt n pa i l1.length l2.length 0 W)
  (h1 : ItemV W (getT l1 key) lv) (h2 : ItemV W (getT l2 key) rv) :
  Calls Tryz.prog 253 #[k, lv, rv, .pointer (some ⟨n + 4, 0, none⟩), .pointer (some ⟨n + 2, 0, none⟩), .pointer (some ⟨n + 1, 0, none⟩), .pointer (some ⟨n + 3, 0, none⟩), .pointer (some ⟨n, 0, none⟩)] W (McPost n pa i l1.length l2.length (cmpStep l1 l2 i key) W) := by
 unfold cmpStep
 by_cases e1 : i = l1.length
 ·rw [if_pos e1]
  subst e1
  exact mcEnd1 n pa _ _ hi k lv rv W h
 ·rw [if_neg e1]
  by_cases e2 : i = l2.length
  ·rw [if_pos e2]
   exact mcEnd2 n pa i _ _ hi e1 e2 k lv rv W h
  ·rw [if_neg e2]
   cases hg1 : getT l1 key with
   | none =>
    rw [hg1] at h1
    have h1 : lv = .nilIface := h1
    subst h1
    exact mcNil1 n pa i _ _ hi e1 e2 k rv W h
   | some a =>
    cases hg2 : getT l2 key with
    | none =>
     rw [hg1] at h1
     rw [hg2] at h2
     have h2 : rv = .nilIface := h2
     subst h2
     obtain ⟨p, u, rfl, _⟩ := h1
     exact mcNil2 n pa i _ _ hi e1 e2 k _ W h
    | some b =>
     rw [hg1] at h1
     rw [hg2] at h2
     exact mcBoth n pa i _ _ hi e1 e2 k a b (hok _ _ (getT_mem hg1) _ _ (getT_mem hg2)) lv rv W h1 h2 h

theorem bothK_len {l1 l2 : List (ByteArray × T)} (h1 : Sorted l1) (h2 : Sorted l2) : (bothK l1 l2).length ≤ l1.length + l2.length := by
 have h3 := (mergeK_sorted _ _ (sortK_of h1) (sortK_of h2)).nodup.length_le_of_subset (l₂ := l1.map Prod.fst ++ l2.map Prod.fst) (fun k hk => List.mem_append.2 ((mem_mergeK _ _ _).1 hk))
 rw [List.length_append, List.length_map, List.length_map] at h3
 exact h3

theorem mcZip {l1 l2 : List (ByteArray × T)} (hok : ∀ k a, (k, a) ∈ l1 → ∀ j b, (j, b) ∈ l2 → CmpOK a b) (s1 : Sorted l1) (s2 : Sorted l2) (b1 : l1.length * 88 ≤ R47) (b2 : l2.length * 88 ≤ R47) (n : Nat) (pa : Addr) (w : World) (h : McAt n pa 0 l1.length l2.length 0 w) :
  ZipStep 253 #[.pointer (some ⟨n + 4, 0, none⟩), .pointer (some ⟨n + 2, 0, none⟩), .pointer (some ⟨n + 1, 0, none⟩), .pointer (some ⟨n + 3, 0, none⟩), .pointer (some ⟨n, 0, none⟩)] l1 l2 w (fun b => b = n + 1 ∨ b = n + 4)
   (fun _ i W => CmpAt l1 l2 i ∧ McAt n pa i l1.length l2.length 0 W) (fun W => Bk W (n + 1) 3 #[.int .i64 (T.cmpM l1 l2)]) where
 start W hb := ⟨CmpAt.zero _ _, h.below hb⟩
 keep _ _ _ _ hj hb := ⟨hj.1, hj.2.below hb⟩
 step B i k W lv rv hk hj hB hBW h1 h2 := by
  have hib : i ≤ 8796093022208 := by
   have := bothK_len s1 s2
   have := (List.getElem?_eq_some_iff.1 hk).1
   unfold R47 at b1 b2
   omega
  refine (mcStep hok n pa i hib k (.string k) lv rv W hj.2 h1 h2).mono ?_
  rintro e W' ⟨rfl, hm, hbs⟩
  have hn := hj.1.next s1 s2 hk
  refine ⟨?_, hbs.os, hbs.tape, hbs.output, hbs.size, fun b hb hn' => hbs.block b hb fun h => hn' (.inl h)⟩
  by_cases hc : cmpStep l1 l2 i k = 0
  ·rw [decide_eq_true hc]
   rw [hc] at hm
   exact .inl ⟨rfl, hn.1 hc, hm⟩
  ·rw [decide_eq_false hc]
   exact .inr ⟨rfl, by rw [hn.2 hc]; exact hm.c⟩

theorem mcWorld (w : World) (pa : Addr) (n1 n2 : Nat) : McAt w.heap.size pa 0 n1 n2 0 (((((w.alloc (.cells #[.iface 303 (.pointer (some pa))] 268)).alloc (.cells #[.int .i64 0] 3)).alloc (.cells #[.int .i64 (n1 : Int)] 3)).alloc (.cells #[.int .i64 (n2 : Int)] 3)).alloc (.cells #[.int .i64 0] 3)) ∧
  Below w.heap.size w (((((w.alloc (.cells #[.iface 303 (.pointer (some pa))] 268)).alloc (.cells #[.int .i64 0] 3)).alloc (.cells #[.int .i64 (n1 : Int)] 3)).alloc (.cells #[.int .i64 (n2 : Int)] 3)).alloc (.cells #[.int .i64 0] 3)) := by
 refine ⟨⟨((((Bk.new w _ _).alloc _).alloc _).alloc _).alloc _, ?_, ?_, ?_, ?_⟩, ?_⟩
 ·have := (((Bk.new (w.alloc (.cells #[.iface 303 (.pointer (some pa))] 268)) 3 #[.int .i64 0]).alloc (.cells #[.int .i64 (n1 : Int)] 3)).alloc (.cells #[.int .i64 (n2 : Int)] 3)).alloc (.cells #[.int .i64 0] 3)
  simpa using this
 ·have := ((Bk.new ((w.alloc (.cells #[.iface 303 (.pointer (some pa))] 268)).alloc (.cells #[.int .i64 0] 3)) 3 #[.int .i64 (n1 : Int)]).alloc (.cells #[.int .i64 (n2 : Int)] 3)).alloc (.cells #[.int .i64 0] 3)
  simpa using this
 ·have := (Bk.new (((w.alloc (.cells #[.iface 303 (.pointer (some pa))] 268)).alloc (.cells #[.int .i64 0] 3)).alloc (.cells #[.int .i64 (n1 : Int)] 3)) 3 #[.int .i64 (n2 : Int)]).alloc (.cells #[.int .i64 0] 3)
  simpa using this
 ·have := Bk.new ((((w.alloc (.cells #[.iface 303 (.pointer (some pa))] 268)).alloc (.cells #[.int .i64 0] 3)).alloc (.cells #[.int .i64 (n1 : Int)] 3)).alloc (.cells #[.int .i64 (n2 : Int)] 3)) 3 #[.int .i64 0]
  simpa using this
 ·exact (((((Below.refl _ _).alloc (Nat.le_refl _) _).alloc (by simp) _).alloc (by simp; omega) _).alloc (by simp; omega) _).alloc (by simp; omega) _

set_option maxRecDepth 100000 in
set_option maxHeartbeats 2000000 in
theorem mapCompare_calls {l1 l2 : List (ByteArray × T)} (hok : ∀ k a, (k, a) ∈ l1 → ∀ j b, (j, b) ∈ l2 → CmpOK a b) {r1 r2 : Nat} {val1 val2 : ByteArray → Value} {w : World} (h1 : MapAt (Old w) w r1 l1 val1) (h2 : MapAt (Old w) w r2 l2 val2) (pa : Addr) :
  Calls Tryz.prog 236 #[.iface 303 (.pointer (some pa)), .iface 453 (.map (some r1)), .iface 453 (.map (some r2))] w (CmpPost (T.cmpM l1 l2) w) := by
 have hn1 : l1.length * 88 ≤ 140737488351232 := h1.small
 have hn2 : l2.length * 88 ≤ 140737488351232 := h2.small
 obtain ⟨c, hcv⟩ : ∃ c, T.cmpM l1 l2 = c := ⟨_, rfl⟩
 rw [hcv]
 have Hc := hide hcv
 have Hok := hide hok
 have HM := hide (And.intro h1 h2)
 have Hm : ∀ W, Below w.heap.size w W → Hid (MapAt (Old w) W r1 l1 val1 ∧ MapAt (Old w) W r2 l2 val2) := fun W hb => hide ⟨h1.below (fun _ h => h) hb, h2.below (fun _ h => h) hb⟩
 clear hcv hok h1 h2
 go_enter Tryz.func236, Tryz.ntmps236
 go_wp2_with fail
 refine (mapLength_calls (Hm _ ((((Below.refl _ _).alloc (Nat.le_refl _) _).alloc (by simp) _).alloc (by simp; omega) _ |>.alloc (by simp; omega) _)).out.1.is_).mono ?_
 rintro e w1 ⟨rfl, rfl⟩
 go_wp2_with fail
 refine (mapLength_calls (Hm _ ((((Below.refl _ _).alloc (Nat.le_refl _) _).alloc (by simp) _).alloc (by simp; omega) _ |>.alloc (by simp; omega) _)).out.2.is_).mono ?_
 rintro e w1 ⟨rfl, rfl⟩
 by_cases hz : l1 = [] ∧ l2 = []
 ·obtain ⟨rfl, rfl⟩ := hz
  have hc0 : c = 0 := by
   have := Hc.out
   rw [T.cmpM] at this
   exact this.symm
  subst hc0
  go_wp2
  go_ret
  exact ⟨rfl, (((Below.refl _ _).alloc (Nat.le_refl _) _).alloc (by simp) _).alloc (by simp; omega) _ |>.alloc (by simp; omega) _⟩
 ·have hW := mcWorld w pa l1.length l2.length
  have Hz : Hid (Calls Tryz.prog 252 #[.iface 303 (.pointer (some pa)), .iface 453 (.map (some r1)), .iface 453 (.map (some r2)), .int .i64 1, .func (.func 253) #[] #[.pointer (some ⟨w.heap.size + 1 + 1 + 1 + 1, 0, none⟩), .pointer (some ⟨w.heap.size + 1 + 1, 0, none⟩), .pointer (some ⟨w.heap.size + 1, 0, none⟩), .pointer (some ⟨w.heap.size + 1 + 1 + 1, 0, none⟩), .pointer (some ⟨w.heap.size, 0, none⟩)]]
    (((((w.alloc (.cells #[.iface 303 (.pointer (some pa))] 268)).alloc (.cells #[.int .i64 0] 3)).alloc (.cells #[.int .i64 (l1.length : Int)] 3)).alloc (.cells #[.int .i64 (l2.length : Int)] 3)).alloc (.cells #[.int .i64 0] 3))
    fun e w' => (∃ b, e = .returned (.bool b)) ∧ Bk w' (w.heap.size + 1) 3 #[.int .i64 c] ∧ Below w.heap.size w w') := by
   generalize World.alloc _ _ = W5 at hW ⊢
   have hsz := hW.1.i.lt
   refine hide ((mapZipUsing_calls (F := Old w) (fun b hb => ⟨?_, ?_⟩) (fun b hb => ?_) (fun args W => by kernel_rfl) (HM.out.1.below (fun _ h => h) hW.2) (HM.out.2.below (fun _ h => h) hW.2) pa (mcZip Hok.out HM.out.1.sorted HM.out.2.sorted HM.out.1.small HM.out.2.small w.heap.size pa W5 hW.1)).mono ?_)
   ·have hb : b < w.heap.size := hb
    omega
   ·have hb : b < w.heap.size := hb
    omega
   ·omega
   ·rintro e w' ⟨he, hb⟩
    have hbw : Below w.heap.size w w' := ⟨hb.os.trans hW.2.os, hb.tape.trans hW.2.tape, hb.output.trans hW.2.output, Nat.le_trans hW.2.size hb.size, fun b hb' => (hb.block b (by omega) (by omega)).trans (hW.2.block b hb')⟩
    rcases he with ⟨rfl, B, hc1, hm⟩ | ⟨rfl, hj⟩
    ·have := hc1.end_
     rw [Hc.out] at this
     subst this
     exact ⟨⟨_, rfl⟩, hm.c, hbw⟩
    ·rw [Hc.out] at hj
     exact ⟨⟨_, rfl⟩, hj, hbw⟩
  clear hW Hm
  have hcase : ((l1.length : Int) == 0) = false ∨ (l1 = [] ∧ ((l2.length : Int) == 0) = false) := by
   by_cases h1 : l1 = []
   ·right
    refine ⟨h1, ?_⟩
    rw [beq_eq_false_iff_ne]
    exact fun h => hz ⟨h1, List.eq_nil_of_length_eq_zero (by omega)⟩
   ·left
    rw [beq_eq_false_iff_ne]
    exact fun h => h1 (List.eq_nil_of_length_eq_zero (by omega))
  clear hz
  rcases hcase with hz | ⟨rfl, hz⟩
  all_goals
   go_wp2_with fail
   refine Hz.out.mono ?_
   rintro e w2 ⟨⟨b, rfl⟩, hB, hb⟩
   have q1 := hB.cell 0
   simp at q1
   have Hb := hide hb
   clear hb hB
   go_wp2
   go_ret
   exact ⟨rfl, Hb.out⟩

end Go.Proofs.YtbicoknghdgahaaGreat

namespace Go.Proofs.YtbicoknghdgahaaGreat
open Go.RowKit
attribute [local go_sem] run_store_float run_load_k meth_IsNull meth_IsFloat meth_IsInt meth_IsString meth_IsBool meth_IsList meth_IsMap meth_AsMapUsing meth_Free

attribute [local go_sem] T.isNull T.isFlt T.isInt T.isStr T.isBool T.isList T.isMap

theorem MapAt.of_any {F : Nat → Prop} {w : World} {l : List (ByteArray × T)} {v : Value} (h : AnyAt F w (.map l) v) : ∃ r val, v = .iface 307 (.map (some r)) ∧ MapAt F w r l val := by
 cases h with
 | map h1 h2 h3 h4 h5 h6 => exact ⟨_, _, rfl, h5, h3, h1, h4, h6⟩

set_option maxRecDepth 100000 in
set_option maxHeartbeats 4000000 in
theorem compareMM (l1 l2 : List (ByteArray × T)) (hok : ∀ k a, (k, a) ∈ l1 → ∀ j b, (j, b) ∈ l2 → CmpOK a b) : CmpOK (.map l1) (.map l2) := by
 intro w pa v1 v2 h1 h2
 obtain ⟨p, u, rfl, hpl, hB, hu⟩ := h1
 obtain ⟨q, v, rfl, hql, hC, hv⟩ := h2
 have hc := hB.cell 0
 have hd := hC.cell 0
 simp at hc hd
 clear hB hC
 simp only [Old] at hpl hql
 have hst : St2 w p q u v w := ⟨hc, hd, Below.refl _ _⟩
 rw [T.cmp]
 obtain ⟨c, hcv⟩ : ∃ c, T.cmpM l1 l2 = c := ⟨_, rfl⟩
 rw [hcv]
 have Hc := hide hcv
 clear hcv
 have Hok := hide hok
 have Hu := hide hu
 have Hv := hide hv
 clear hok
 obtain ⟨r1, val1, rfl, hm1⟩ := MapAt.of_any hu
 obtain ⟨r2, val2, rfl, hm2⟩ := MapAt.of_any hv
 have Ha := hide (And.intro hm1 hm2)
 clear hm1 hm2 hu hv
 go_enter_defers Tryz.func209, Tryz.ntmps209
 go_wp2_with fail
 refine (St2.call hst hpl hql (IsFloat_calls Hu.out _)).mono ?_
 rintro e w1 ⟨rfl, hst⟩
 have hc := hst.1
 have hd := hst.2.1
 go_wp2_with fail
 refine (St2.call hst hpl hql (IsFloat_calls Hv.out _)).mono ?_
 rintro e w1 ⟨rfl, hst⟩
 have hc := hst.1
 have hd := hst.2.1
 go_wp2_with fail
 refine (St2.call hst hpl hql (IsInt_calls Hu.out _)).mono ?_
 rintro e w1 ⟨rfl, hst⟩
 have hc := hst.1
 have hd := hst.2.1
 go_wp2_with fail
 refine (St2.call hst hpl hql (IsInt_calls Hv.out _)).mono ?_
 rintro e w1 ⟨rfl, hst⟩
 have hc := hst.1
 have hd := hst.2.1
 go_wp2_with fail
 refine (St2.call hst hpl hql (IsString_calls Hu.out _)).mono ?_
 rintro e w1 ⟨rfl, hst⟩
 have hc := hst.1
 have hd := hst.2.1
 go_wp2_with fail
 refine (St2.call hst hpl hql (IsString_calls Hv.out _)).mono ?_
 rintro e w1 ⟨rfl, hst⟩
 have hc := hst.1
 have hd := hst.2.1
 go_wp2_with fail
 refine (St2.call hst hpl hql (IsBool_calls Hu.out _)).mono ?_
 rintro e w1 ⟨rfl, hst⟩
 have hc := hst.1
 have hd := hst.2.1
 go_wp2_with fail
 refine (St2.call hst hpl hql (IsBool_calls Hv.out _)).mono ?_
 rintro e w1 ⟨rfl, hst⟩
 have hc := hst.1
 have hd := hst.2.1
 go_wp2_with fail
 refine (St2.call hst hpl hql (IsList_calls Hu.out _)).mono ?_
 rintro e w1 ⟨rfl, hst⟩
 have hc := hst.1
 have hd := hst.2.1
 go_wp2_with fail
 refine (St2.call hst hpl hql (IsList_calls Hv.out _)).mono ?_
 rintro e w1 ⟨rfl, hst⟩
 have hc := hst.1
 have hd := hst.2.1
 go_wp2_with fail
 refine (St2.call hst hpl hql (IsMap_calls Hu.out _)).mono ?_
 rintro e w1 ⟨rfl, hst⟩
 have hc := hst.1
 have hd := hst.2.1
 go_wp2_with fail
 refine (St2.call hst hpl hql (IsMap_calls Hv.out _)).mono ?_
 rintro e w1 ⟨rfl, hst⟩
 have hc := hst.1
 have hd := hst.2.1
 go_wp2_with fail
 refine (St2.call hst hpl hql (AsMapUsing_calls _ _ _)).mono ?_
 rintro e w1 ⟨rfl, hst⟩
 have hc := hst.1
 have hd := hst.2.1
 go_wp2_with fail
 refine (St2.call hst hpl hql (AsMapUsing_calls _ _ _)).mono ?_
 rintro e w1 ⟨rfl, hst⟩
 have hc := hst.1
 have hd := hst.2.1
 have Hb1 := hide hst.2.2
 go_wp2_with fail
 have hk : Keeps (Old w) w w1 := Keeps.below Hb1.out fun _ hx => hx
 have hm : ∀ b, Old w b → Old w1 b := fun _ hx => Nat.lt_of_lt_of_le hx Hb1.out.size
 have hfin := mapCompare_calls Hok.out ((Ha.out.1.keeps hk).mono hm) ((Ha.out.2.keeps hk).mono hm) pa
 rw [Hc.out] at hfin
 refine hfin.mono ?_
 clear hfin hk hm
 rintro e w2 ⟨rfl, hb2⟩
 have Hb2 := hide (Hb1.out.trans (hb2.mono Hb1.out.size))
 clear hb2
 go_wp2_with fail
 refine leaves_cons (f := 323) (args := #[.pointer (some pa), .iface 453 (.map (some r2))]) (by simp) (by simp [go_sem, meth_Free]) ?_
 refine (free_deferred pa _ .returning _).mono ?_
 rintro e u' w' ⟨rfl, rfl, rfl⟩
 refine leaves_cons (f := 323) (args := #[.pointer (some pa), .iface 453 (.map (some r1))]) (by simp [settle]) (by simp [go_sem, meth_Free]) ?_
 refine (free_deferred pa _ .returning _).mono ?_
 rintro e u' w' ⟨rfl, rfl, rfl⟩
 exact ⟨_, results_tmp rfl _ _ _, rfl, Hb2.out⟩

theorem cmp_all (a b : T) : CmpOK a b := by
 induction h : a.rank using Nat.strongRecOn generalizing a b with
 | ind n ih =>
 subst h
 intro w pa v1 v2 h1 h2
 cases a with
 | null => exact compareNull pa h1 h2 (fun _ h => h) (fun _ h => h)
 | bool x => exact compareBool x pa h1 h2 (fun _ h => h) (fun _ h => h)
 | int x => exact compareInt x pa h1 h2 (fun _ h => h) (fun _ h => h)
 | flt x => exact compareFlt x pa h1 h2 (fun _ h => h) (fun _ h => h)
 | str x => exact compareStr x pa h1 h2 (fun _ h => h) (fun _ h => h)
 | list l =>
  cases b with
  | list m => exact compareLL l m (fun a ha b _ => ih _ (T.rank_list ha) a b rfl) w pa v1 v2 h1 h2
  | _ => exact compareList l (by rfl) pa h1 h2 (fun _ h => h) (fun _ h => h)
 | map l =>
  cases b with
  | map m => exact compareMM l m (fun k a ha j b _ => ih _ (T.rank_map ha) a b rfl) w pa v1 v2 h1 h2
  | _ => exact compareMap l (by rfl) pa h1 h2 (fun _ h => h) (fun _ h => h)

end Go.Proofs.YtbicoknghdgahaaGreat

namespace Go.Proofs.YtbicoknghdgahaaGreat
open Go.RowKit

structure Bx (W : World) (g : Nat) (c0 c1 c2 c3 c4 c5 : Value) : Prop where
 k0 : W.cell? ⟨g, 0, none⟩ = some c0
 k1 : W.cell? ⟨g, 1, none⟩ = some c1
 k2 : W.cell? ⟨g, 2, none⟩ = some c2
 k3 : W.cell? ⟨g, 3, none⟩ = some c3
 k4 : W.cell? ⟨g, 4, none⟩ = some c4
 k5 : W.cell? ⟨g, 5, none⟩ = some c5
theorem Bx.of {W : World} {g : Nat} {t : TypeId} {c0 c1 c2 c3 c4 c5 : Value} (h : Bk W g t #[c0, c1, c2, c3, c4, c5]) : Bx W g c0 c1 c2 c3 c4 c5 := ⟨h.cell 0, h.cell 1, h.cell 2, h.cell 3, h.cell 4, h.cell 5⟩
theorem Bx.below {W W' : World} {g B : Nat} {c0 c1 c2 c3 c4 c5 : Value} (h : Bx W g c0 c1 c2 c3 c4 c5) (hb : Below B W W') (hg : g < B) : Bx W' g c0 c1 c2 c3 c4 c5 := by
 have e := (bcell hb).1
 exact ⟨(e _ _ hg).trans h.k0, (e _ _ hg).trans h.k1, (e _ _ hg).trans h.k2, (e _ _ hg).trans h.k3, (e _ _ hg).trans h.k4, (e _ _ hg).trans h.k5⟩

structure Bx2 (g h : Nat) (a0 a1 a2 a3 a4 a5 b0 b1 b2 b3 b4 b5 : Value) (W : World) : Prop where
 l : Bx W g a0 a1 a2 a3 a4 a5
 r : Bx W h b0 b1 b2 b3 b4 b5
theorem Bx2.below {g h : Nat} {a0 a1 a2 a3 a4 a5 b0 b1 b2 b3 b4 b5 : Value} {W W' : World} {B : Nat} (x : Bx2 g h a0 a1 a2 a3 a4 a5 b0 b1 b2 b3 b4 b5 W) (hb : Below B W W') (hg : g < B) (hh : h < B) : Bx2 g h a0 a1 a2 a3 a4 a5 b0 b1 b2 b3 b4 b5 W' := ⟨x.l.below hb hg, x.r.below hb hh⟩
theorem Bx2.drew {g h : Nat} {a0 a1 a2 a3 a4 a5 b0 b1 b2 b3 b4 b5 : Value} {W : World} (x : Bx2 g h a0 a1 a2 a3 a4 a5 b0 b1 b2 b3 b4 b5 W) : Bx2 g h a0 a1 a2 a3 a4 a5 b0 b1 b2 b3 b4 b5 W.drew := ⟨⟨x.l.k0, x.l.k1, x.l.k2, x.l.k3, x.l.k4, x.l.k5⟩, ⟨x.r.k0, x.r.k1, x.r.k2, x.r.k3, x.r.k4, x.r.k5⟩⟩
theorem Bx2.made (w : World) (t s : TypeId) (a0 a1 a2 a3 a4 a5 b0 b1 b2 b3 b4 b5 : Value) : Bx2 w.heap.size (w.heap.size + 1) a0 a1 a2 a3 a4 a5 b0 b1 b2 b3 b4 b5 ((w.alloc (.cells #[a0, a1, a2, a3, a4, a5] t)).alloc (.cells #[b0, b1, b2, b3, b4, b5] s)) := by
 refine ⟨Bx.of ((Bk.new w _ _).alloc _), ?_⟩
 have := Bk.new (w.alloc (.cells #[a0, a1, a2, a3, a4, a5] t)) s #[b0, b1, b2, b3, b4, b5]
 simp only [World.size_alloc] at this
 exact Bx.of this
theorem below_two (w : World) (o p : Obj) : Below w.heap.size w ((w.alloc o).alloc p) := ((Below.refl _ _).alloc (Nat.le_refl _) _).alloc (by simp) _

theorem ValAt.at_ {w W : World} {t : T} {v : Value} (h : ValAt (Old w) w t v) (hb : Below w.heap.size w W) : ValAt (Old W) W t v :=
 (h.keeps (Keeps.below hb fun _ h => h)).mono fun _ h => Nat.lt_of_lt_of_le h hb.size
theorem below_drew {B : Nat} {w W : World} (h : Below B w W) : Below B w W.drew := ⟨h.os, h.tape, h.output, h.size, h.block⟩
theorem below_drew' {B : Nat} {w W : World} (h : Below B w.drew W) : Below B w W := ⟨h.os, h.tape, h.output, h.size, h.block⟩

theorem compareV_calls {a b : T} {v1 v2 : Value} {w : World} (h1 : ValAt (Old w) w a v1) (h2 : ValAt (Old w) w b v2) : Calls Tryz.prog 179 #[v1, v2] w (CmpPost (T.cmp a b) w) := by
 have hb0 : ∀ o : Obj, Below w.heap.size w (w.alloc o) := fun o => (Below.refl _ _).alloc (Nat.le_refl _) _
 have Hc := fun o => hide (cmp_all a b (w.alloc o) ⟨w.heap.size, 0, none⟩ v1 v2 (h1.at_ (hb0 o)) (h2.at_ (hb0 o)))
 generalize T.cmp a b = c at Hc
 clear h1 h2
 go_enter Tryz.func179, Tryz.ntmps179
 go_wp2_with fail
 refine (Hc _).out.mono ?_
 rintro e w1 ⟨rfl, hb⟩
 have Hb := hide ((hb0 _).trans (hb.mono (by simp)))
 clear hb Hc hb0
 go_wp2
 go_ret
 exact ⟨rfl, Hb.out⟩
end Go.Proofs.YtbicoknghdgahaaGreat

namespace Go.Proofs.YtbicoknghdgahaaGreat
open Go.RowKit


end Go.Proofs.YtbicoknghdgahaaGreat

namespace Go.Proofs.YtbicoknghdgahaaGreat
open Go.RowKit
attribute [local go_sem] run_store_float

end Go.Proofs.YtbicoknghdgahaaGreat

namespace Go.Proofs.YtbicoknghdgahaaGreat
open Go.RowKit

structure W3 (w : World) (a0 a1 a2 a3 a4 a5 b0 b1 b2 b3 b4 b5 c0 c1 c2 c3 c4 c5 : Value) (W : World) : Prop where
 below : Below w.heap.size w W
 size : w.heap.size + 3 ≤ W.heap.size
 a : Bx W w.heap.size a0 a1 a2 a3 a4 a5
 b : Bx W (w.heap.size + 1) b0 b1 b2 b3 b4 b5
 c : Bx W (w.heap.size + 1 + 1) c0 c1 c2 c3 c4 c5
theorem W3.call {w : World} {a0 a1 a2 a3 a4 a5 b0 b1 b2 b3 b4 b5 c0 c1 c2 c3 c4 c5 : Value} {W W' : World} (h : W3 w a0 a1 a2 a3 a4 a5 b0 b1 b2 b3 b4 b5 c0 c1 c2 c3 c4 c5 W) (hb : Below W.heap.size W W') : W3 w a0 a1 a2 a3 a4 a5 b0 b1 b2 b3 b4 b5 c0 c1 c2 c3 c4 c5 W' := by
 have := h.size
 exact ⟨h.below.trans (hb.mono h.below.size), Nat.le_trans h.size hb.size, h.a.below hb (by omega), h.b.below hb (by omega), h.c.below hb (by omega)⟩
theorem W3.made (w : World) (t : TypeId) (a0 a1 a2 a3 a4 a5 b0 b1 b2 b3 b4 b5 c0 c1 c2 c3 c4 c5 : Value) : W3 w a0 a1 a2 a3 a4 a5 b0 b1 b2 b3 b4 b5 c0 c1 c2 c3 c4 c5 (((w.alloc (.cells #[a0, a1, a2, a3, a4, a5] t)).alloc (.cells #[b0, b1, b2, b3, b4, b5] t)).alloc (.cells #[c0, c1, c2, c3, c4, c5] t)) := by
 have h := Bx2.made w t t a0 a1 a2 a3 a4 a5 b0 b1 b2 b3 b4 b5
 have hb : ∀ W : World, Below W.heap.size W (W.alloc (.cells #[c0, c1, c2, c3, c4, c5] t)) := fun W => (Below.refl _ _).alloc (Nat.le_refl _) _
 refine ⟨(below_two w _ _).trans ((hb _).mono (by simp; omega)), by simp, h.l.below (hb _) (by simp; omega), h.r.below (hb _) (by simp), ?_⟩
 have := Bk.new ((w.alloc (.cells #[a0, a1, a2, a3, a4, a5] t)).alloc (.cells #[b0, b1, b2, b3, b4, b5] t)) t #[c0, c1, c2, c3, c4, c5]
 simp only [World.size_alloc] at this
 exact Bx.of this

structure W2 (w : World) (a0 a1 a2 a3 a4 a5 b0 b1 b2 b3 b4 b5 : Value) (W : World) : Prop where
 below : Below w.heap.size w W
 size : w.heap.size + 2 ≤ W.heap.size
 a : Bx W w.heap.size a0 a1 a2 a3 a4 a5
 b : Bx W (w.heap.size + 1) b0 b1 b2 b3 b4 b5
theorem W2.call {w : World} {a0 a1 a2 a3 a4 a5 b0 b1 b2 b3 b4 b5 : Value} {W W' : World} (h : W2 w a0 a1 a2 a3 a4 a5 b0 b1 b2 b3 b4 b5 W) (hb : Below W.heap.size W W') : W2 w a0 a1 a2 a3 a4 a5 b0 b1 b2 b3 b4 b5 W' := by
 have := h.size
 exact ⟨h.below.trans (hb.mono h.below.size), Nat.le_trans h.size hb.size, h.a.below hb (by omega), h.b.below hb (by omega)⟩
theorem W2.made (w : World) (t : TypeId) (a0 a1 a2 a3 a4 a5 b0 b1 b2 b3 b4 b5 : Value) : W2 w a0 a1 a2 a3 a4 a5 b0 b1 b2 b3 b4 b5 ((w.alloc (.cells #[a0, a1, a2, a3, a4, a5] t)).alloc (.cells #[b0, b1, b2, b3, b4, b5] t)) := by
 have h := Bx2.made w t t a0 a1 a2 a3 a4 a5 b0 b1 b2 b3 b4 b5
 exact ⟨below_two w _ _, by simp, h.l, h.r⟩

end Go.Proofs.YtbicoknghdgahaaGreat

namespace Go.Proofs.YtbicoknghdgahaaGreat

inductive E where
 | field (s : ByteArray)
 | key (l : List (ByteArray × T))
 | val (t : T)
 | idx (n : Int)

def E.ord : E → Int
 | .field _ => 0
 | .key _ => 1
 | .val _ => 2
 | .idx _ => 3
def E.cmp : E → E → Int
 | .field a, .field b => cmpS a b
 | .key a, .key b => T.cmpM a b
 | .val a, .val b => T.cmp a b
 | .idx a, .idx b => cmpI a b
 | a, b => cmpI a.ord b.ord
def E.eqv : E → E → Bool
 | .field a, .field b => decide (a = b)
 | .key a, .key b => T.eqvM a b
 | .val a, .val b => T.eqv a b
 | .idx a, .idx b => a == b
 | _, _ => false
inductive E.Ok : E → Prop
 | field (s : ByteArray) : Ok (.field s)
 | key {l : List (ByteArray × T)} : Sorted l → (T.map l).Ok → Ok (.key l)
 | val {t : T} : t.Ok → Ok (.val t)
 | idx (n : Int) : Ok (.idx n)

theorem E.cmp_ord {a b : E} (h : a.ord ≠ b.ord) : E.cmp a b = cmpI a.ord b.ord := by
 cases a <;> cases b <;> first | rfl | exact absurd rfl h
theorem E.cmp_self {a : E} (h : a.Ok) : E.cmp a a = 0 := by
 cases h with
 | field s => exact cmpS_zero.2 rfl
 | key _ h => exact cmpM_self _ h.fields
 | val h => exact Go.Proofs.YtbicoknghdgahaaGreat.cmp_self h
 | idx n => exact cmpI_zero.2 rfl
theorem E.cmp_turn {a b : E} (ha : a.Ok) (hb : b.Ok) : E.cmp b a = - E.cmp a b := by
 by_cases ho : a.ord = b.ord
 ·cases ha with
  | field s => cases hb <;> first | exact cmpS_turn _ _ | cases ho
  | @key l _ h =>
   cases hb with
   | @key l' _ h' => exact cmpM_turn l l' h.fields h'.fields
   | _ => cases ho
  | @val t h =>
   cases hb with
   | @val t' h' => exact Go.Proofs.YtbicoknghdgahaaGreat.cmp_turn t t' h h'
   | _ => cases ho
  | idx n => cases hb <;> first | exact cmpI_turn _ _ | cases ho
 ·rw [E.cmp_ord ho, E.cmp_ord (fun e => ho e.symm)]
  exact cmpI_turn _ _
theorem E.cmp_tr {a b c : E} (ha : a.Ok) (hb : b.Ok) (hc : c.Ok) : Tr (E.cmp a b) (E.cmp b c) (E.cmp a c) := by
 by_cases h1 : a.ord = b.ord
 ·by_cases h2 : b.ord = c.ord
  ·cases ha with
   | field s => cases hb <;> first | cases h1; done | (cases hc <;> first | cases h2; done | exact Tr.of_cmpS _ _ _)
   | @key l _ h =>
    cases hb with
    | @key l' _ h' =>
     cases hc with
     | @key l'' _ h'' => exact cmpM_tr l l' l'' h.fields h'.fields h''.fields
     | _ => cases h2
    | _ => cases h1
   | @val t h =>
    cases hb with
    | @val t' h' =>
     cases hc with
     | @val t'' h'' => exact Go.Proofs.YtbicoknghdgahaaGreat.cmp_tr t t' t'' h h' h''
     | _ => cases h2
    | _ => cases h1
   | idx n => cases hb <;> first | cases h1; done | (cases hc <;> first | cases h2; done | exact Tr.of_cmpI _ _ _)
  ·have e3 : a.ord ≠ c.ord := by rw [h1]; exact h2
   rw [E.cmp_ord h2, E.cmp_ord e3, h1]
   unfold Tr cmpI
   constructor <;> intros <;> (repeat' split at *) <;> omega
 ·by_cases h2 : b.ord = c.ord
  ·have e3 : a.ord ≠ c.ord := by rw [← h2]; exact h1
   rw [E.cmp_ord h1, E.cmp_ord e3, ← h2]
   unfold Tr cmpI
   constructor <;> intros <;> (repeat' split at *) <;> omega
  ·by_cases h3 : a.ord = c.ord
   ·rw [E.cmp_ord h1, E.cmp_ord h2, h3]
    unfold Tr cmpI
    constructor <;> intros <;> (repeat' split at *) <;> omega
   ·rw [E.cmp_ord h1, E.cmp_ord h2, E.cmp_ord h3]
    exact Tr.of_cmpI _ _ _

structure REl where
 kind : Int
 s : ByteArray
 keys : List ByteArray
 l : List RV
 v : RV
 n : Int
def REl.elem (r : REl) : E :=
 if r.kind = 1 then .key (r.keys.zip (r.l.map RV.tree))
 else if r.kind = 2 then .val r.v.tree
 else if r.kind = 3 then .idx r.n
 else .field r.s

end Go.Proofs.YtbicoknghdgahaaGreat

namespace Go.Proofs.YtbicoknghdgahaaGreat
open Go.RowKit
attribute [local go_sem] run_store_float run_load_k

def Cells {α : Type} (n : Nat) (P : α → List Value → Prop) (ls : List α) (xs : List Value) : Prop := xs.length = ls.length * n ∧ ∀ (i : Nat) a, ls[i]? = some a → P a ((xs.drop (i * n)).take n)
section
variable {α : Type} {n : Nat} {P Q : α → List Value → Prop} {ls bs : List α} {xs ys : List Value}
theorem Cells.mono (h : Cells n P ls xs) (k : ∀ a cs, P a cs → Q a cs) : Cells n Q ls xs := ⟨h.1, fun i a ha => k _ _ (h.2 i a ha)⟩
theorem Cells.one {a : α} {cs : List Value} (h : P a cs) (hl : cs.length = n) : Cells n P [a] cs := by
 refine ⟨by simp [hl], fun i r' hr => ?_⟩
 cases i with
 | zero =>
  simp at hr
  subst hr
  rw [Nat.zero_mul, List.drop_zero, List.take_of_length_le (by omega)]
  exact h
 | succ i => simp at hr
theorem Cells.append (h : Cells n P ls xs) (h' : Cells n P bs ys) : Cells n P (ls ++ bs) (xs ++ ys) := by
 have l1 := h.1
 have l2 := h'.1
 refine ⟨by simp only [List.length_append, l1, l2, Nat.add_mul], fun i r hr => ?_⟩
 by_cases hi : i < ls.length
 ·rw [List.getElem?_append_left hi] at hr
  have := h.2 i r hr
  have e : i * n + n ≤ xs.length := by
   rw [l1, ← Nat.succ_mul]
   exact Nat.mul_le_mul_right _ hi
  rw [List.drop_append_of_le_length (by omega), List.take_append_of_le_length (by simp only [List.length_drop]; omega)]
  exact this
 ·rw [List.getElem?_append_right (by omega)] at hr
  have := h'.2 _ r hr
  have e : i * n = xs.length + (i - ls.length) * n := by
   rw [l1, ← Nat.add_mul]
   congr 1
   omega
  rw [e, List.drop_length_add_append]
  exact this
theorem Cells.take (h : Cells n P ls xs) (m : Nat) (hm : m ≤ ls.length) : Cells n P (ls.take m) (xs.take (m * n)) := by
 have l1 := h.1
 refine ⟨?_, fun i r hr => ?_⟩
 ·rw [List.length_take, List.length_take, l1, Nat.min_eq_left hm, Nat.min_eq_left (Nat.mul_le_mul_right _ hm)]
 ·have hi : i < m := by
   have := (List.getElem?_eq_some_iff.1 hr).1
   simp only [List.length_take] at this
   omega
  rw [List.getElem?_take, if_pos hi] at hr
  have := h.2 i r hr
  have e : i * n + n ≤ m * n := by
   rw [← Nat.succ_mul]
   exact Nat.mul_le_mul_right _ hi
  rw [List.drop_take, List.take_take, Nat.min_eq_left (by omega)]
  exact this
theorem Cells.ones (h : Cells n P ls xs) (hn : 0 < n) (k : ∀ a cs, P a cs → ∀ u ∈ cs, u.oneCell' = true) : ∀ u ∈ xs, u.oneCell' = true := by
 intro u hu
 obtain ⟨j, hj⟩ := List.getElem?_of_mem hu
 have hjl := (List.getElem?_eq_some_iff.1 hj).1
 have l1 := h.1
 have hi : j / n < ls.length := Nat.div_lt_of_lt_mul (by rw [Nat.mul_comm, ← l1]; exact hjl)
 have hr := h.2 (j / n) ls[j / n] (List.getElem?_eq_getElem hi)
 have hmod := Nat.mod_lt j hn
 have hu' : ((xs.drop (j / n * n)).take n)[j % n]? = some u := by
  rw [List.getElem?_take, if_pos hmod, List.getElem?_drop]
  have : j / n * n + j % n = j := by rw [Nat.mul_comm]; exact Nat.div_add_mod j n
  rw [this]
  exact hj
 exact k _ _ hr u (List.mem_of_getElem? hu')
theorem Cells.at_ (h : Cells n P ls xs) {i : Nat} (hi : i < ls.length) : P ls[i] ((xs.drop (i * n)).take n) := h.2 i _ (List.getElem?_eq_getElem hi)
end

theorem rown_at {F : Nat → Prop} {w : World} {A : Option Addr} {n len k : Nat} {xs cs : List Value} (h : Row F w n A len xs) (hk : k < len) (hcs : (xs.drop (k * n)).take n = cs) :
  ∃ b o, A = some ⟨b, o, none⟩ ∧ F b ∧ ∀ j u, cs[j]? = some u → w.cell? ⟨b, o + k * n + j, none⟩ = some u := by
 obtain ⟨b, o, e, hF, hc⟩ := h.2 (by omega)
 refine ⟨b, o, e, hF, fun j u hu => ?_⟩
 rw [← hcs, List.getElem?_take] at hu
 split at hu
 ·rw [List.getElem?_drop] at hu
  rw [Nat.add_assoc]
  exact hc _ _ hu
 ·cases hu

end Go.Proofs.YtbicoknghdgahaaGreat

namespace Go.Proofs.YtbicoknghdgahaaGreat
open Go.RowKit

def FldAt (F : Nat → Prop) (w : World) (p : ByteArray × T) (cs : List Value) : Prop := ∃ g : Addr, cs = [.string p.1, .iface 302 (.pointer (some g))] ∧ p.1.size ≤ R47 ∧ ValAt F w p.2 (.iface 302 (.pointer (some g)))
def FLAt (F : Nat → Prop) (w : World) (l : List (ByteArray × T)) (A : Option Addr) (c : Nat) : Prop := l.length ≤ c ∧ c ≤ maxLen ∧ l.length * 88 ≤ R47 ∧ ∃ xs, Row F w 2 A l.length xs ∧ Cells 2 (FldAt F w) l xs
inductive PEAt (F : Nat → Prop) (w : World) : E → List Value → Prop
 | field {s : ByteArray} {g : Nat} : s.size ≤ R47 → F g → Bk w g 9 #[.string s] → PEAt F w (.field s) [.pointer (some ⟨g, 0, none⟩), .pointer none, .pointer none, .pointer none]
 | key {l : List (ByteArray × T)} {g : Nat} {A : Option Addr} {c : Nat} : F g → Bk w g 198 #[.slice A l.length c] → FLAt F w l A c → PEAt F w (.key l) [.pointer none, .pointer (some ⟨g, 0, none⟩), .pointer none, .pointer none]
 | val {t : T} {g : Nat} {p : Addr} : F g → Bk w g 112 #[.iface 302 (.pointer (some p))] → ValAt F w t (.iface 302 (.pointer (some p))) → PEAt F w (.val t) [.pointer none, .pointer none, .pointer (some ⟨g, 0, none⟩), .pointer none]
 | idx {n : Int} {g : Nat} : okInt n → F g → Bk w g 3 #[.int .i64 n] → PEAt F w (.idx n) [.pointer none, .pointer none, .pointer none, .pointer (some ⟨g, 0, none⟩)]
section
variable {F G : Nat → Prop} {w w' : World}
theorem FldAt.keeps {p : ByteArray × T} {cs : List Value} (h : FldAt F w p cs) (k : Keeps F w w') : FldAt F w' p cs := by
 obtain ⟨g, e, h1, h2⟩ := h
 exact ⟨g, e, h1, h2.keeps k⟩
theorem FldAt.mono {p : ByteArray × T} {cs : List Value} (h : FldAt F w p cs) (k : ∀ b, F b → G b) : FldAt G w p cs := by
 obtain ⟨g, e, h1, h2⟩ := h
 exact ⟨g, e, h1, h2.mono k⟩
theorem FLAt.keeps {l : List (ByteArray × T)} {A : Option Addr} {c : Nat} (h : FLAt F w l A c) (k : Keeps F w w') : FLAt F w' l A c := by
 obtain ⟨h1, h2, h3, xs, h4, h5⟩ := h
 exact ⟨h1, h2, h3, xs, h4.keeps k, h5.mono fun a cs h => h.keeps k⟩
theorem FLAt.mono {l : List (ByteArray × T)} {A : Option Addr} {c : Nat} (h : FLAt F w l A c) (k : ∀ b, F b → G b) : FLAt G w l A c := by
 obtain ⟨h1, h2, h3, xs, h4, h5⟩ := h
 exact ⟨h1, h2, h3, xs, h4.mono k, h5.mono fun a cs h => h.mono k⟩
theorem FLAt.at_ {l : List (ByteArray × T)} {A : Option Addr} {c : Nat} (h : FLAt (Old w) w l A c) (hb : Below w.heap.size w w') : FLAt (Old w') w' l A c := (h.keeps (Keeps.below hb fun _ h => h)).mono fun _ h => Nat.lt_of_lt_of_le h hb.size
theorem PEAt.keeps {e : E} {cs : List Value} (h : PEAt F w e cs) (k : Keeps F w w') : PEAt F w' e cs := by
 cases h with
 | field h1 h2 h3 => exact .field h1 h2 ((k _ h2).trans h3)
 | key h1 h2 h3 => exact .key h1 ((k _ h1).trans h2) (h3.keeps k)
 | val h1 h2 h3 => exact .val h1 ((k _ h1).trans h2) (h3.keeps k)
 | idx h1 h2 h3 => exact .idx h1 h2 ((k _ h2).trans h3)
theorem PEAt.mono {e : E} {cs : List Value} (h : PEAt F w e cs) (k : ∀ b, F b → G b) : PEAt G w e cs := by
 cases h with
 | field h1 h2 h3 => exact .field h1 (k _ h2) h3
 | key h1 h2 h3 => exact .key (k _ h1) h2 (h3.mono k)
 | val h1 h2 h3 => exact .val (k _ h1) h2 (h3.mono k)
 | idx h1 h2 h3 => exact .idx h1 (k _ h2) h3
theorem PEAt.at_ {e : E} {cs : List Value} (h : PEAt (Old w) w e cs) (hb : Below w.heap.size w w') : PEAt (Old w') w' e cs := (h.keeps (Keeps.below hb fun _ h => h)).mono fun _ h => Nat.lt_of_lt_of_le h hb.size
theorem PEAt.form {e : E} {cs : List Value} (h : PEAt F w e cs) : ∃ a b c d : Option Addr, cs = [.pointer a, .pointer b, .pointer c, .pointer d] := by
 cases h <;> exact ⟨_, _, _, _, rfl⟩
end
end Go.Proofs.YtbicoknghdgahaaGreat
