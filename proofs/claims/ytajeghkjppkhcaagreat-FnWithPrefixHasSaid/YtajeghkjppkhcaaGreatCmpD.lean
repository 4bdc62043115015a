/-
  Several texts in one: MapCmp, CmpAll.
-/
import Derived.Test.YtajeghkjppkhcaaGreatZip
import Derived.Test.YtajeghkjppkhcaaGreatCmpC
import Derived.Test.YtajeghkjppkhcaaGreatCmpAB
set_option linter.unusedVariables false
set_option linter.unusedSimpArgs false
/-!
  value.MapCompareUsing.
-/

namespace Go.Proofs.YtajeghkjppkhcaaGreat
open Go.RowKit
attribute [local go_sem] run_store_float run_load_k meth_allocVu meth_Free meth_Length

/-- what the closure finds: the cells i, llength, c, rlength, a in the blocks of n + 4, n + 2, n + 1, n + 3, n -/
structure McAt (n : Nat) (pa : Addr) (i n1 n2 : Nat) (c : Int) (W : World) : Prop where
  a : Bk W n 299 #[.iface 250 (.pointer (some pa))]
  c : Bk W (n + 1) 3 #[.int .i64 c]
  ll : Bk W (n + 2) 3 #[.int .i64 (n1 : Int)]
  rl : Bk W (n + 3) 3 #[.int .i64 (n2 : Int)]
  i : Bk W (n + 4) 3 #[.int .i64 (i : Int)]
theorem McAt.below {n : Nat} {pa : Addr} {i n1 n2 : Nat} {c : Int} {W W' : World} (h : McAt n pa i n1 n2 c W) (hb : Below W.heap.size W W') : McAt n pa i n1 n2 c W' :=
  ⟨h.a.below hb h.a.lt, h.c.below hb h.c.lt, h.ll.below hb h.ll.lt, h.rl.below hb h.rl.lt, h.i.below hb h.i.lt⟩
theorem McAt.setC {n : Nat} {pa : Addr} {i n1 n2 : Nat} {c : Int} {W : World} (h : McAt n pa i n1 n2 c W) (c' : Int) : McAt n pa i n1 n2 c' (W.setCell ⟨n + 1, 0, none⟩ (.int .i64 c')) :=
  ⟨h.a.far (by simp) _, by simpa using h.c.set_ 0 (.int .i64 c'), h.ll.far (by simp) _, h.rl.far (by simp) _, h.i.far (by simp) _⟩
theorem McAt.setI {n : Nat} {pa : Addr} {i n1 n2 : Nat} {c : Int} {W : World} (h : McAt n pa i n1 n2 c W) (i' : Nat) : McAt n pa i' n1 n2 c (W.setCell ⟨n + 4, 0, none⟩ (.int .i64 (i' : Int))) :=
  ⟨h.a.far (by simp) _, h.c.far (by simp) _, h.ll.far (by simp) _, h.rl.far (by simp) _, by simpa using h.i.set_ 0 (.int .i64 (i' : Int))⟩

/-- what the closure leaves -/
def McPost (n : Nat) (pa : Addr) (i n1 n2 : Nat) (c : Int) (W : World) (e : Ending) (W' : World) : Prop :=
  e = .returned (.bool (decide (c = 0))) ∧ McAt n pa (i + 1) n1 n2 c W' ∧ ButS (fun b => b = n + 1 ∨ b = n + 4) W W'
theorem ButS.two {n : Nat} {W : World} (c i : Value) : ButS (fun b => b = n + 1 ∨ b = n + 4) W ((W.setCell ⟨n + 1, 0, none⟩ c).setCell ⟨n + 4, 0, none⟩ i) :=
  ⟨rfl, rfl, rfl, by simp, fun b _ hn => (Below.heap_setCell _ _ _ _ (fun h => hn (.inr h))).trans (Below.heap_setCell _ _ _ _ (fun h => hn (.inl h)))⟩

set_option maxRecDepth 100000 in
set_option maxHeartbeats 1000000 in
theorem mcEnd1 (n : Nat) (pa : Addr) (n1 n2 : Nat) (hi : n1 ≤ 8796093022208) (k lv rv : Value) (W : World) (h : McAt n pa n1 n1 n2 0 W) :
    Calls Tryz.prog 221 #[k, lv, rv, .pointer (some ⟨n + 4, 0, none⟩), .pointer (some ⟨n + 2, 0, none⟩), .pointer (some ⟨n + 1, 0, none⟩), .pointer (some ⟨n + 3, 0, none⟩), .pointer (some ⟨n, 0, none⟩)] W (McPost n pa n1 n1 n2 (-1) W) := by
  have q1 := h.c.cell 0
  have q2 := h.ll.cell 0
  have q4 := h.i.cell 0
  simp at q1 q2 q4
  have f1 := h.c.free 0
  have f4 := h.i.free 0
  have g1 := h.c.lt
  have g4 := h.i.lt
  have H := hide h
  clear h
  go_enter Tryz.func221, Tryz.ntmps221
  go_wp2
  go_ret
  exact ⟨rfl, (H.out.setC (-1)).setI (n1 + 1), ButS.two _ _⟩

set_option maxRecDepth 100000 in
set_option maxHeartbeats 1000000 in
theorem mcEnd2 (n : Nat) (pa : Addr) (i n1 n2 : Nat) (hi : i ≤ 8796093022208) (h1 : i ≠ n1) (h2 : i = n2) (k lv rv : Value) (W : World) (h : McAt n pa i n1 n2 0 W) :
    Calls Tryz.prog 221 #[k, lv, rv, .pointer (some ⟨n + 4, 0, none⟩), .pointer (some ⟨n + 2, 0, none⟩), .pointer (some ⟨n + 1, 0, none⟩), .pointer (some ⟨n + 3, 0, none⟩), .pointer (some ⟨n, 0, none⟩)] W (McPost n pa i n1 n2 1 W) := by
  have q1 := h.c.cell 0
  have q2 := h.ll.cell 0
  have q3 := h.rl.cell 0
  have q4 := h.i.cell 0
  simp at q1 q2 q3 q4
  have f1 := h.c.free 0
  have f4 := h.i.free 0
  have g1 := h.c.lt
  have g4 := h.i.lt
  have e1 : ¬ (i : Int) = (n1 : Int) := by omega
  subst h2
  have H := hide h
  clear h
  go_enter Tryz.func221, Tryz.ntmps221
  go_wp2
  go_ret
  exact ⟨rfl, (H.out.setC 1).setI (i + 1), ButS.two _ _⟩

set_option maxRecDepth 100000 in
set_option maxHeartbeats 1000000 in
theorem mcNil1 (n : Nat) (pa : Addr) (i n1 n2 : Nat) (hi : i ≤ 8796093022208) (h1 : i ≠ n1) (h2 : i ≠ n2) (k rv : Value) (W : World) (h : McAt n pa i n1 n2 0 W) :
    Calls Tryz.prog 221 #[k, .nilIface, rv, .pointer (some ⟨n + 4, 0, none⟩), .pointer (some ⟨n + 2, 0, none⟩), .pointer (some ⟨n + 1, 0, none⟩), .pointer (some ⟨n + 3, 0, none⟩), .pointer (some ⟨n, 0, none⟩)] W (McPost n pa i n1 n2 1 W) := by
  have q1 := h.c.cell 0
  have q2 := h.ll.cell 0
  have q3 := h.rl.cell 0
  have q4 := h.i.cell 0
  simp at q1 q2 q3 q4
  have f1 := h.c.free 0
  have f4 := h.i.free 0
  have g1 := h.c.lt
  have g4 := h.i.lt
  have e1 : ¬ (i : Int) = (n1 : Int) := by omega
  have e2 : ¬ (i : Int) = (n2 : Int) := by omega
  have H := hide h
  clear h
  go_enter Tryz.func221, Tryz.ntmps221
  go_wp2
  go_ret
  exact ⟨rfl, (H.out.setC 1).setI (i + 1), ButS.two _ _⟩

set_option maxRecDepth 100000 in
set_option maxHeartbeats 1000000 in
theorem mcNil2 (n : Nat) (pa : Addr) (i n1 n2 : Nat) (hi : i ≤ 8796093022208) (h1 : i ≠ n1) (h2 : i ≠ n2) (k : Value) (p : Addr) (W : World) (h : McAt n pa i n1 n2 0 W) :
    Calls Tryz.prog 221 #[k, .iface 249 (.pointer (some p)), .nilIface, .pointer (some ⟨n + 4, 0, none⟩), .pointer (some ⟨n + 2, 0, none⟩), .pointer (some ⟨n + 1, 0, none⟩), .pointer (some ⟨n + 3, 0, none⟩), .pointer (some ⟨n, 0, none⟩)] W (McPost n pa i n1 n2 (-1) W) := by
  have q1 := h.c.cell 0
  have q2 := h.ll.cell 0
  have q3 := h.rl.cell 0
  have q4 := h.i.cell 0
  simp at q1 q2 q3 q4
  have f1 := h.c.free 0
  have f4 := h.i.free 0
  have g1 := h.c.lt
  have g4 := h.i.lt
  have e1 : ¬ (i : Int) = (n1 : Int) := by omega
  have e2 : ¬ (i : Int) = (n2 : Int) := by omega
  have H := hide h
  clear h
  go_enter Tryz.func221, Tryz.ntmps221
  go_wp2
  go_ret
  exact ⟨rfl, (H.out.setC (-1)).setI (i + 1), ButS.two _ _⟩

set_option maxRecDepth 100000 in
set_option maxHeartbeats 1000000 in
theorem mcBoth (n : Nat) (pa : Addr) (i n1 n2 : Nat) (hi : i ≤ 8796093022208) (h1 : i ≠ n1) (h2 : i ≠ n2) (k : Value) (a b : T) (hok : CmpOK a b) (lv rv : Value) (W : World) (ha : ValAt (Old W) W a lv) (hb : ValAt (Old W) W b rv) (h : McAt n pa i n1 n2 0 W) :
    Calls Tryz.prog 221 #[k, lv, rv, .pointer (some ⟨n + 4, 0, none⟩), .pointer (some ⟨n + 2, 0, none⟩), .pointer (some ⟨n + 1, 0, none⟩), .pointer (some ⟨n + 3, 0, none⟩), .pointer (some ⟨n, 0, none⟩)] W (McPost n pa i n1 n2 (T.cmp a b) W) := by
  have hcall := hok W pa lv rv ha hb
  generalize T.cmp a b = c at hcall
  have Hc := hide hcall
  clear hcall hok
  obtain ⟨p, u, rfl, _, _, _⟩ := ha
  obtain ⟨q, v, rfl, _, _, _⟩ := hb
  have q0 := h.a.cell 0
  have q2 := h.ll.cell 0
  have q3 := h.rl.cell 0
  have q4 := h.i.cell 0
  simp at q0 q2 q3 q4
  have e1 : ¬ (i : Int) = (n1 : Int) := by omega
  have e2 : ¬ (i : Int) = (n2 : Int) := by omega
  have H := hide h
  clear h
  go_enter Tryz.func221, Tryz.ntmps221
  go_wp2_with fail
  refine Hc.out.mono ?_
  rintro e w1 ⟨rfl, hb1⟩
  have h := H.out.below hb1
  clear q0 q2 q3 q4
  have q1 := h.c.cell 0
  have q4 := h.i.cell 0
  simp at q1 q4
  have f1 := h.c.free 0
  have f4 := h.i.free 0
  have g1 := h.c.lt
  have g4 := h.i.lt
  have H := hide (And.intro h hb1)
  clear h hb1
  go_wp2
  go_ret
  exact ⟨rfl, (H.out.1.setC c).setI (i + 1), (ButS.below H.out.2).trans (ButS.two _ _) fun _ _ h => h⟩

/-- one step of the comparison of two maps -/
theorem mcStep {l1 l2 : List (ByteArray × T)} (hok : ∀ k a, (k, a) ∈ l1 → ∀ j b, (j, b) ∈ l2 → CmpOK a b) (n : Nat) (pa : Addr) (i : Nat) (hi : i ≤ 8796093022208) (key : ByteArray) (k lv rv : Value) (W : World) (h : McAt n pa i l1.length l2.length 0 W)
    (h1 : ItemV W (getT l1 key) lv) (h2 : ItemV W (getT l2 key) rv) :
    Calls Tryz.prog 221 #[k, lv, rv, .pointer (some ⟨n + 4, 0, none⟩), .pointer (some ⟨n + 2, 0, none⟩), .pointer (some ⟨n + 1, 0, none⟩), .pointer (some ⟨n + 3, 0, none⟩), .pointer (some ⟨n, 0, none⟩)] W (McPost n pa i l1.length l2.length (cmpStep l1 l2 i key) W) := by
  unfold cmpStep
  by_cases e1 : i = l1.length
  · rw [if_pos e1]
    subst e1
    exact mcEnd1 n pa _ _ hi k lv rv W h
  · rw [if_neg e1]
    by_cases e2 : i = l2.length
    · rw [if_pos e2]
      exact mcEnd2 n pa i _ _ hi e1 e2 k lv rv W h
    · rw [if_neg e2]
      cases hg1 : getT l1 key with
      | none =>
        rw [hg1] at h1
        have h1 : lv = .nilIface := h1
        subst h1
        exact mcNil1 n pa i _ _ hi e1 e2 k rv W h
      | some a =>
        cases hg2 : getT l2 key with
        | none =>
          rw [hg1] at h1
          rw [hg2] at h2
          have h2 : rv = .nilIface := h2
          subst h2
          obtain ⟨p, u, rfl, _⟩ := h1
          exact mcNil2 n pa i _ _ hi e1 e2 k _ W h
        | some b =>
          rw [hg1] at h1
          rw [hg2] at h2
          exact mcBoth n pa i _ _ hi e1 e2 k a b (hok _ _ (getT_mem hg1) _ _ (getT_mem hg2)) lv rv W h1 h2 h

theorem bothK_len {l1 l2 : List (ByteArray × T)} (h1 : Sorted l1) (h2 : Sorted l2) : (bothK l1 l2).length ≤ l1.length + l2.length := by
  have h3 := (mergeK_sorted _ _ (sortK_of h1) (sortK_of h2)).nodup.length_le_of_subset (l₂ := l1.map Prod.fst ++ l2.map Prod.fst) (fun k hk => List.mem_append.2 ((mem_mergeK _ _ _).1 hk))
  rw [List.length_append, List.length_map, List.length_map] at h3
  exact h3

/-- what the zip asks for -/
theorem mcZip {l1 l2 : List (ByteArray × T)} (hok : ∀ k a, (k, a) ∈ l1 → ∀ j b, (j, b) ∈ l2 → CmpOK a b) (s1 : Sorted l1) (s2 : Sorted l2) (b1 : l1.length * 88 ≤ R47) (b2 : l2.length * 88 ≤ R47) (n : Nat) (pa : Addr) (w : World) (h : McAt n pa 0 l1.length l2.length 0 w) :
    ZipStep 221 #[.pointer (some ⟨n + 4, 0, none⟩), .pointer (some ⟨n + 2, 0, none⟩), .pointer (some ⟨n + 1, 0, none⟩), .pointer (some ⟨n + 3, 0, none⟩), .pointer (some ⟨n, 0, none⟩)] l1 l2 w (fun b => b = n + 1 ∨ b = n + 4)
      (fun _ i W => CmpAt l1 l2 i ∧ McAt n pa i l1.length l2.length 0 W) (fun W => Bk W (n + 1) 3 #[.int .i64 (T.cmpM l1 l2)]) where
  start W hb := ⟨CmpAt.zero _ _, h.below hb⟩
  keep _ _ _ _ hj hb := ⟨hj.1, hj.2.below hb⟩
  step B i k W lv rv hk hj hB hBW h1 h2 := by
    have hib : i ≤ 8796093022208 := by
      have := bothK_len s1 s2
      have := (List.getElem?_eq_some_iff.1 hk).1
      unfold R47 at b1 b2
      omega
    refine (mcStep hok n pa i hib k (.string k) lv rv W hj.2 h1 h2).mono ?_
    rintro e W' ⟨rfl, hm, hbs⟩
    have hn := hj.1.next s1 s2 hk
    refine ⟨?_, hbs.os, hbs.tape, hbs.output, hbs.size, fun b hb hn' => hbs.block b hb fun h => hn' (.inl h)⟩
    by_cases hc : cmpStep l1 l2 i k = 0
    · rw [decide_eq_true hc]
      rw [hc] at hm
      exact .inl ⟨rfl, hn.1 hc, hm⟩
    · rw [decide_eq_false hc]
      exact .inr ⟨rfl, by rw [hn.2 hc]; exact hm.c⟩

/-- the world in which the zip is called -/
theorem mcWorld (w : World) (pa : Addr) (n1 n2 : Nat) : McAt w.heap.size pa 0 n1 n2 0 (((((w.alloc (.cells #[.iface 250 (.pointer (some pa))] 299)).alloc (.cells #[.int .i64 0] 3)).alloc (.cells #[.int .i64 (n1 : Int)] 3)).alloc (.cells #[.int .i64 (n2 : Int)] 3)).alloc (.cells #[.int .i64 0] 3)) ∧
    Below w.heap.size w (((((w.alloc (.cells #[.iface 250 (.pointer (some pa))] 299)).alloc (.cells #[.int .i64 0] 3)).alloc (.cells #[.int .i64 (n1 : Int)] 3)).alloc (.cells #[.int .i64 (n2 : Int)] 3)).alloc (.cells #[.int .i64 0] 3)) := by
  refine ⟨⟨((((Bk.new w _ _).alloc _).alloc _).alloc _).alloc _, ?_, ?_, ?_, ?_⟩, ?_⟩
  · have := (((Bk.new (w.alloc (.cells #[.iface 250 (.pointer (some pa))] 299)) 3 #[.int .i64 0]).alloc (.cells #[.int .i64 (n1 : Int)] 3)).alloc (.cells #[.int .i64 (n2 : Int)] 3)).alloc (.cells #[.int .i64 0] 3)
    simpa using this
  · have := ((Bk.new ((w.alloc (.cells #[.iface 250 (.pointer (some pa))] 299)).alloc (.cells #[.int .i64 0] 3)) 3 #[.int .i64 (n1 : Int)]).alloc (.cells #[.int .i64 (n2 : Int)] 3)).alloc (.cells #[.int .i64 0] 3)
    simpa using this
  · have := (Bk.new (((w.alloc (.cells #[.iface 250 (.pointer (some pa))] 299)).alloc (.cells #[.int .i64 0] 3)).alloc (.cells #[.int .i64 (n1 : Int)] 3)) 3 #[.int .i64 (n2 : Int)]).alloc (.cells #[.int .i64 0] 3)
    simpa using this
  · have := Bk.new ((((w.alloc (.cells #[.iface 250 (.pointer (some pa))] 299)).alloc (.cells #[.int .i64 0] 3)).alloc (.cells #[.int .i64 (n1 : Int)] 3)).alloc (.cells #[.int .i64 (n2 : Int)] 3)) 3 #[.int .i64 0]
    simpa using this
  · exact (((((Below.refl _ _).alloc (Nat.le_refl _) _).alloc (by simp) _).alloc (by simp; omega) _).alloc (by simp; omega) _).alloc (by simp; omega) _

set_option maxRecDepth 100000 in
set_option maxHeartbeats 2000000 in
/-- value.MapCompareUsing of two maps, where the fields' comparisons are known -/
theorem mapCompare_calls {l1 l2 : List (ByteArray × T)} (hok : ∀ k a, (k, a) ∈ l1 → ∀ j b, (j, b) ∈ l2 → CmpOK a b) {r1 r2 : Nat} {val1 val2 : ByteArray → Value} {w : World} (h1 : MapAt (Old w) w r1 l1 val1) (h2 : MapAt (Old w) w r2 l2 val2) (pa : Addr) :
    Calls Tryz.prog 214 #[.iface 250 (.pointer (some pa)), .iface 363 (.map (some r1)), .iface 363 (.map (some r2))] w (CmpPost (T.cmpM l1 l2) w) := by
  have hn1 : l1.length * 88 ≤ 140737488351232 := h1.small
  have hn2 : l2.length * 88 ≤ 140737488351232 := h2.small
  obtain ⟨c, hcv⟩ : ∃ c, T.cmpM l1 l2 = c := ⟨_, rfl⟩
  rw [hcv]
  have Hc := hide hcv
  have Hok := hide hok
  have HM := hide (And.intro h1 h2)
  have Hm : ∀ W, Below w.heap.size w W → Hid (MapAt (Old w) W r1 l1 val1 ∧ MapAt (Old w) W r2 l2 val2) := fun W hb => hide ⟨h1.below (fun _ h => h) hb, h2.below (fun _ h => h) hb⟩
  clear hcv hok h1 h2
  go_enter Tryz.func214, Tryz.ntmps214
  go_wp2_with fail
  refine (mapLength_calls (Hm _ ((((Below.refl _ _).alloc (Nat.le_refl _) _).alloc (by simp) _).alloc (by simp; omega) _ |>.alloc (by simp; omega) _)).out.1.is_).mono ?_
  rintro e w1 ⟨rfl, rfl⟩
  go_wp2_with fail
  refine (mapLength_calls (Hm _ ((((Below.refl _ _).alloc (Nat.le_refl _) _).alloc (by simp) _).alloc (by simp; omega) _ |>.alloc (by simp; omega) _)).out.2.is_).mono ?_
  rintro e w1 ⟨rfl, rfl⟩
  by_cases hz : l1 = [] ∧ l2 = []
  · obtain ⟨rfl, rfl⟩ := hz
    have hc0 : c = 0 := by
      have := Hc.out
      rw [T.cmpM] at this
      exact this.symm
    subst hc0
    go_wp2
    go_ret
    exact ⟨rfl, (((Below.refl _ _).alloc (Nat.le_refl _) _).alloc (by simp) _).alloc (by simp; omega) _ |>.alloc (by simp; omega) _⟩
  · have hW := mcWorld w pa l1.length l2.length
    have Hz : Hid (Calls Tryz.prog 220 #[.iface 250 (.pointer (some pa)), .iface 363 (.map (some r1)), .iface 363 (.map (some r2)), .int .i64 1, .func (.func 221) #[] #[.pointer (some ⟨w.heap.size + 1 + 1 + 1 + 1, 0, none⟩), .pointer (some ⟨w.heap.size + 1 + 1, 0, none⟩), .pointer (some ⟨w.heap.size + 1, 0, none⟩), .pointer (some ⟨w.heap.size + 1 + 1 + 1, 0, none⟩), .pointer (some ⟨w.heap.size, 0, none⟩)]]
        (((((w.alloc (.cells #[.iface 250 (.pointer (some pa))] 299)).alloc (.cells #[.int .i64 0] 3)).alloc (.cells #[.int .i64 (l1.length : Int)] 3)).alloc (.cells #[.int .i64 (l2.length : Int)] 3)).alloc (.cells #[.int .i64 0] 3))
        fun e w' => (∃ b, e = .returned (.bool b)) ∧ Bk w' (w.heap.size + 1) 3 #[.int .i64 c] ∧ Below w.heap.size w w') := by
      generalize World.alloc _ _ = W5 at hW ⊢
      have hsz := hW.1.i.lt
      refine hide ((mapZipUsing_calls (F := Old w) (fun b hb => ⟨?_, ?_⟩) (fun b hb => ?_) (fun args W => by kernel_rfl) (HM.out.1.below (fun _ h => h) hW.2) (HM.out.2.below (fun _ h => h) hW.2) pa (mcZip Hok.out HM.out.1.sorted HM.out.2.sorted HM.out.1.small HM.out.2.small w.heap.size pa W5 hW.1)).mono ?_)
      · have hb : b < w.heap.size := hb
        omega
      · have hb : b < w.heap.size := hb
        omega
      · omega
      · rintro e w' ⟨he, hb⟩
        have hbw : Below w.heap.size w w' := ⟨hb.os.trans hW.2.os, hb.tape.trans hW.2.tape, hb.output.trans hW.2.output, Nat.le_trans hW.2.size hb.size, fun b hb' => (hb.block b (by omega) (by omega)).trans (hW.2.block b hb')⟩
        rcases he with ⟨rfl, B, hc1, hm⟩ | ⟨rfl, hj⟩
        · have := hc1.end_
          rw [Hc.out] at this
          subst this
          exact ⟨⟨_, rfl⟩, hm.c, hbw⟩
        · rw [Hc.out] at hj
          exact ⟨⟨_, rfl⟩, hj, hbw⟩
    clear hW Hm
    have hcase : ((l1.length : Int) == 0) = false ∨ (l1 = [] ∧ ((l2.length : Int) == 0) = false) := by
      by_cases h1 : l1 = []
      · right
        refine ⟨h1, ?_⟩
        rw [beq_eq_false_iff_ne]
        exact fun h => hz ⟨h1, List.eq_nil_of_length_eq_zero (by omega)⟩
      · left
        rw [beq_eq_false_iff_ne]
        exact fun h => h1 (List.eq_nil_of_length_eq_zero (by omega))
    clear hz
    rcases hcase with hz | ⟨rfl, hz⟩
    all_goals
      go_wp2_with fail
      refine Hz.out.mono ?_
      rintro e w2 ⟨⟨b, rfl⟩, hB, hb⟩
      have q1 := hB.cell 0
      simp at q1
      have Hb := hide hb
      clear hb hB
      go_wp2
      go_ret
      exact ⟨rfl, Hb.out⟩

end Go.Proofs.YtajeghkjppkhcaaGreat

/-!
  value.CompareUsing of two maps; and of every two values.
-/

namespace Go.Proofs.YtajeghkjppkhcaaGreat
open Go.RowKit
attribute [local go_sem] run_store_float run_load_k meth_IsNull meth_IsFloat meth_IsInt meth_IsString meth_IsBool meth_IsList meth_IsMap meth_AsMapUsing meth_Free

attribute [local go_sem] T.isNull T.isFlt T.isInt T.isStr T.isBool T.isList T.isMap

theorem MapAt.of_any {F : Nat → Prop} {w : World} {l : List (ByteArray × T)} {v : Value} (h : AnyAt F w (.map l) v) : ∃ r val, v = .iface 255 (.map (some r)) ∧ MapAt F w r l val := by
  cases h with
  | map h1 h2 h3 h4 h5 h6 => exact ⟨_, _, rfl, h5, h3, h1, h4, h6⟩

set_option maxRecDepth 100000 in
set_option maxHeartbeats 4000000 in
theorem compareMM (l1 l2 : List (ByteArray × T)) (hok : ∀ k a, (k, a) ∈ l1 → ∀ j b, (j, b) ∈ l2 → CmpOK a b) : CmpOK (.map l1) (.map l2) := by
  intro w pa v1 v2 h1 h2
  obtain ⟨p, u, rfl, hpl, hB, hu⟩ := h1
  obtain ⟨q, v, rfl, hql, hC, hv⟩ := h2
  have hc := hB.cell 0
  have hd := hC.cell 0
  simp at hc hd
  clear hB hC
  simp only [Old] at hpl hql
  have hst : St2 w p q u v w := ⟨hc, hd, Below.refl _ _⟩
  rw [T.cmp]
  obtain ⟨c, hcv⟩ : ∃ c, T.cmpM l1 l2 = c := ⟨_, rfl⟩
  rw [hcv]
  have Hc := hide hcv
  clear hcv
  have Hok := hide hok
  have Hu := hide hu
  have Hv := hide hv
  clear hok
  obtain ⟨r1, val1, rfl, hm1⟩ := MapAt.of_any hu
  obtain ⟨r2, val2, rfl, hm2⟩ := MapAt.of_any hv
  have Ha := hide (And.intro hm1 hm2)
  clear hm1 hm2 hu hv
  go_enter_defers Tryz.func198, Tryz.ntmps198
  go_wp2_with fail
  refine (St2.call hst hpl hql (IsFloat_calls Hu.out _)).mono ?_
  rintro e w1 ⟨rfl, hst⟩
  have hc := hst.1
  have hd := hst.2.1
  go_wp2_with fail
  refine (St2.call hst hpl hql (IsFloat_calls Hv.out _)).mono ?_
  rintro e w1 ⟨rfl, hst⟩
  have hc := hst.1
  have hd := hst.2.1
  go_wp2_with fail
  refine (St2.call hst hpl hql (IsInt_calls Hu.out _)).mono ?_
  rintro e w1 ⟨rfl, hst⟩
  have hc := hst.1
  have hd := hst.2.1
  go_wp2_with fail
  refine (St2.call hst hpl hql (IsInt_calls Hv.out _)).mono ?_
  rintro e w1 ⟨rfl, hst⟩
  have hc := hst.1
  have hd := hst.2.1
  go_wp2_with fail
  refine (St2.call hst hpl hql (IsString_calls Hu.out _)).mono ?_
  rintro e w1 ⟨rfl, hst⟩
  have hc := hst.1
  have hd := hst.2.1
  go_wp2_with fail
  refine (St2.call hst hpl hql (IsString_calls Hv.out _)).mono ?_
  rintro e w1 ⟨rfl, hst⟩
  have hc := hst.1
  have hd := hst.2.1
  go_wp2_with fail
  refine (St2.call hst hpl hql (IsBool_calls Hu.out _)).mono ?_
  rintro e w1 ⟨rfl, hst⟩
  have hc := hst.1
  have hd := hst.2.1
  go_wp2_with fail
  refine (St2.call hst hpl hql (IsBool_calls Hv.out _)).mono ?_
  rintro e w1 ⟨rfl, hst⟩
  have hc := hst.1
  have hd := hst.2.1
  go_wp2_with fail
  refine (St2.call hst hpl hql (IsList_calls Hu.out _)).mono ?_
  rintro e w1 ⟨rfl, hst⟩
  have hc := hst.1
  have hd := hst.2.1
  go_wp2_with fail
  refine (St2.call hst hpl hql (IsList_calls Hv.out _)).mono ?_
  rintro e w1 ⟨rfl, hst⟩
  have hc := hst.1
  have hd := hst.2.1
  go_wp2_with fail
  refine (St2.call hst hpl hql (IsMap_calls Hu.out _)).mono ?_
  rintro e w1 ⟨rfl, hst⟩
  have hc := hst.1
  have hd := hst.2.1
  go_wp2_with fail
  refine (St2.call hst hpl hql (IsMap_calls Hv.out _)).mono ?_
  rintro e w1 ⟨rfl, hst⟩
  have hc := hst.1
  have hd := hst.2.1
  go_wp2_with fail
  refine (St2.call hst hpl hql (AsMapUsing_calls _ _ _)).mono ?_
  rintro e w1 ⟨rfl, hst⟩
  have hc := hst.1
  have hd := hst.2.1
  go_wp2_with fail
  refine (St2.call hst hpl hql (AsMapUsing_calls _ _ _)).mono ?_
  rintro e w1 ⟨rfl, hst⟩
  have hc := hst.1
  have hd := hst.2.1
  have Hb1 := hide hst.2.2
  go_wp2_with fail
  have hk : Keeps (Old w) w w1 := Keeps.below Hb1.out fun _ hx => hx
  have hm : ∀ b, Old w b → Old w1 b := fun _ hx => Nat.lt_of_lt_of_le hx Hb1.out.size
  have hfin := mapCompare_calls Hok.out ((Ha.out.1.keeps hk).mono hm) ((Ha.out.2.keeps hk).mono hm) pa
  rw [Hc.out] at hfin
  refine hfin.mono ?_
  clear hfin hk hm
  rintro e w2 ⟨rfl, hb2⟩
  have Hb2 := hide (Hb1.out.trans (hb2.mono Hb1.out.size))
  clear hb2
  go_wp2_with fail
  refine leaves_cons (f := 266) (args := #[.pointer (some pa), .iface 363 (.map (some r2))]) (by simp) (by simp [go_sem, meth_Free]) ?_
  refine (free_deferred pa _ .returning _).mono ?_
  rintro e u' w' ⟨rfl, rfl, rfl⟩
  refine leaves_cons (f := 266) (args := #[.pointer (some pa), .iface 363 (.map (some r1))]) (by simp [settle]) (by simp [go_sem, meth_Free]) ?_
  refine (free_deferred pa _ .returning _).mono ?_
  rintro e u' w' ⟨rfl, rfl, rfl⟩
  exact ⟨_, results_tmp rfl _ _ _, rfl, Hb2.out⟩

/-- value.CompareUsing of every two values -/
theorem cmp_all (a b : T) : CmpOK a b := by
  induction h : a.rank using Nat.strongRecOn generalizing a b with
  | ind n ih =>
  subst h
  intro w pa v1 v2 h1 h2
  cases a with
  | null => exact compareNull pa h1 h2 (fun _ h => h) (fun _ h => h)
  | bool x => exact compareBool x pa h1 h2 (fun _ h => h) (fun _ h => h)
  | int x => exact compareInt x pa h1 h2 (fun _ h => h) (fun _ h => h)
  | flt x => exact compareFlt x pa h1 h2 (fun _ h => h) (fun _ h => h)
  | str x => exact compareStr x pa h1 h2 (fun _ h => h) (fun _ h => h)
  | list l =>
    cases b with
    | list m => exact compareLL l m (fun a ha b _ => ih _ (T.rank_list ha) a b rfl) w pa v1 v2 h1 h2
    | _ => exact compareList l (by rfl) pa h1 h2 (fun _ h => h) (fun _ h => h)
  | map l =>
    cases b with
    | map m => exact compareMM l m (fun k a ha j b _ => ih _ (T.rank_map ha) a b rfl) w pa v1 v2 h1 h2
    | _ => exact compareMap l (by rfl) pa h1 h2 (fun _ h => h) (fun _ h => h)

end Go.Proofs.YtajeghkjppkhcaaGreat
