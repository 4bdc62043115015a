/- Parts: FieldList, ElemCmp, SpecO, Field, Head. -/
import Derived.Test.YtbicoknghdgahaaGreatKA08
set_option linter.unusedVariables false
set_option linter.unusedSimpArgs false
namespace Go.Proofs.YtbicoknghdgahaaGreat
open Go.RowKit
attribute [local go_sem] run_store_float

theorem stringsCompare_same (a b : ByteArray) (w : World) : Calls Tryz.prog 177 #[.string a, .string b] w fun e w' => e = .returned (.int .i64 (cmpS a b)) ∧ w' = w :=
 (stringsCompare_calls a b w).mono fun _ _ h => ⟨h.1, h.2.symm⟩
theorem cmpM_step {l1 l2 : List (ByteArray × T)} {k : Nat} (h1 : k < l1.length) (h2 : k < l2.length) : T.cmpM (l1.drop k) (l2.drop k) = if cmpS l1[k].1 l2[k].1 = 0 then (if T.cmp l1[k].2 l2[k].2 = 0 then T.cmpM (l1.drop (k + 1)) (l2.drop (k + 1)) else T.cmp l1[k].2 l2[k].2) else cmpS l1[k].1 l2[k].1 := by
 rw [List.drop_eq_getElem_cons h1, List.drop_eq_getElem_cons h2, T.cmpM]
def FLI (l1 l2 : List (ByteArray × T)) (d : Int) (w : World) (s : Value) (W : World) : Prop := ∃ k : Nat, s = .int .i64 (k : Int) ∧ k ≤ l1.length ∧ k ≤ l2.length ∧ T.cmpM (l1.drop k) (l2.drop k) = d ∧ Below w.heap.size w W
def FLS (b1 o1 b2 o2 k : Nat) (u v : Value) (W : World) : Prop := W.cell? ⟨b1, o1 + k * 2 + 1, none⟩ = some u ∧ W.cell? ⟨b2, o2 + k * 2 + 1, none⟩ = some v

set_option maxRecDepth 100000 in
set_option maxHeartbeats 4000000 in
theorem flCompare_calls {l1 l2 : List (ByteArray × T)} {A1 A2 : Option Addr} {c1 c2 : Nat} {w : World} (h1 : FLAt (Old w) w l1 A1 c1) (h2 : FLAt (Old w) w l2 A2 c2) :
  Calls Tryz.prog 178 #[.slice A1 l1.length c1, .slice A2 l2.length c2] w (CmpPost (T.cmpM l1 l2) w) := by
 obtain ⟨_, _, hb1, xs1, hr1, hx1⟩ := h1
 obtain ⟨_, _, hb2, xs2, hr2, hx2⟩ := h2
 have hn1 : l1.length ≤ 8796093022208 := by unfold R47 at hb1; omega
 have hn2 : l2.length ≤ 8796093022208 := by unfold R47 at hb2; omega
 have H1 := hide (And.intro hr1 hx1)
 have H2 := hide (And.intro hr2 hx2)
 obtain ⟨d, hd⟩ : ∃ d, T.cmpM l1 l2 = d := ⟨_, rfl⟩
 rw [hd]
 have Hd := hide hd
 clear hr1 hx1 hr2 hx2 hb1 hb2 hd
 go_enter Tryz.func178, Tryz.ntmps178
 go_wp2_with fail
 go_loopw [5] (fun s W => FLI l1 l2 d w s W) (fun s _ => l1.length - (intOf s).toNat)
 case atStart => exact ⟨0, rfl, Nat.zero_le _, Nat.zero_le _, by simpa using Hd.out, Below.refl _ _⟩
 case round =>
  obtain ⟨k, rfl, hk1, hk2, hkd, hb⟩ := hrel
  have hki0 : (0 : Int) ≤ (k : Int) := Int.natCast_nonneg _
  by_cases e1 : k < l1.length
  ·have hki1 : (k : Int) < (l1.length : Int) := by omega
   by_cases e2 : k < l2.length
   ·have hki2 : (k : Int) < (l2.length : Int) := by omega
    rw [cmpM_step e1 e2] at hkd
    obtain ⟨g1, hc1, hs1, hv1⟩ := H1.out.2.at_ e1
    obtain ⟨g2, hc2, hs2, hv2⟩ := H2.out.2.at_ e2
    obtain ⟨b1, o1, rfl, hF1, hg1⟩ := rown_at H1.out.1 e1 hc1
    obtain ⟨b2, o2, rfl, hF2, hg2⟩ := rown_at H2.out.1 e2 hc2
    have p0 := hg1 0 _ rfl
    have p1 := hg1 1 _ rfl
    have q0 := hg2 0 _ rfl
    have q1 := hg2 1 _ rfl
    rw [← (bcell hb).1 _ _ hF1] at p0 p1
    rw [← (bcell hb).1 _ _ hF2] at q0 q1
    rw [Nat.add_zero] at p0 q0
    have hcmp := fun (W : World) (hb : Below w.heap.size w W) => compareV_calls (hv1.at_ hb) (hv2.at_ hb)
    generalize l1[k] = a at *
    generalize l2[k] = b at *
    obtain ⟨ka, ta⟩ := a
    obtain ⟨kb, tb⟩ := b
    simp only at p0 p1 q0 q1 hkd hcmp
    obtain ⟨x, hx⟩ : ∃ x, cmpS ka kb = x := ⟨_, rfl⟩
    obtain ⟨y, hy⟩ : ∃ y, T.cmp ta tb = y := ⟨_, rfl⟩
    rw [hx, hy] at hkd
    rw [hy] at hcmp
    have hsc := fun W => stringsCompare_same ka kb W
    rw [hx] at hsc
    have Hsc := hide hsc
    have Hcmp := hide hcmp
    have hl1 : b1 < w.heap.size := hF1
    have hl2 : b2 < w.heap.size := hF2
    have hsw := hb.size
    have Hb := hide hb
    clear hc1 hc2 hs1 hs2 hv1 hv2 hg1 hg2 hF1 hF2 hx hy hsc hcmp hb
    by_cases hx0 : x = 0
    ·subst hx0
     rw [if_pos rfl] at hkd
     have Hkd := hide hkd
     clear hkd
     go_wp2_with fail
     go_quiet ((go_at_call 177; exact Calls.quiet_of_same (Hsc.out _)))
     go_wp2_with fail
     generalize hWW : wr.drewN _ = W2
     have hb2 : Below w.heap.size w W2 := by rw [← hWW]; exact below_drewN Hb.out _
     have r1 : W2.cell? ⟨b1, o1 + k * 2 + 1, none⟩ = some (.iface 302 (.pointer (some g1))) := by rw [← hWW]; exact p1
     have r2 : W2.cell? ⟨b2, o2 + k * 2 + 1, none⟩ = some (.iface 302 (.pointer (some g2))) := by rw [← hWW]; exact q1
     have hsz2 := hb2.size
     clear hWW p0 p1 q0 q1 Hb hsw
     have hS0 : FLS b1 o1 b2 o2 k (.iface 302 (.pointer (some g1))) (.iface 302 (.pointer (some g2))) W2.drew := ⟨r1, r2⟩
     obtain ⟨S, hS⟩ : ∃ S, FLS b1 o1 b2 o2 k (.iface 302 (.pointer (some g1))) (.iface 302 (.pointer (some g2))) = S := ⟨_, rfl⟩
     rw [hS] at hS0
     have Hk := hide (And.intro hb2 (And.intro r1 r2))
     clear hb2 r1 r2
     refine wp_region_head 11 S (by rfl) (by kernel_rfl) ?_
     have hX := hide (show ∀ W : World, S W → W.cell? ⟨b1, o1 + k * 2 + 1, none⟩ = some (.iface 302 (.pointer (some g1))) ∧ W.cell? ⟨b2, o2 + k * 2 + 1, none⟩ = some (.iface 302 (.pointer (some g2))) from fun W hSw => by rw [← hS] at hSw; exact hSw)
     iterate 10
      refine HT.nx (v := ?_) rfl (by kernel_rfl) (fun _ _ _ h => h) (Or.inl ⟨by rfl, ?_⟩) ‹_› ?_
      rotate_left
      ·intro W hSw; have hSw := hX.out W hSw; go_simp; with_reducible rfl
      simp only [Act.put, zzA, zzZ, zzS]
     clear hX
     refine HT.one 10 rfl (by kernel_rfl) (by rfl) (fun K hK => ?_)
     go_simp
     refine (Hcmp.out W2.drew (below_drew Hk.out.1)).mono ?_
     rintro e w9 ⟨rfl, hb9⟩
     have hb9' : Below W2.heap.size W2 w9 := below_drew' hb9
     have eb := (bcell hb9').1
     go_simp
     refine hK.out _ _ (by rw [← hS]; exact ⟨(eb _ _ (by omega)).trans Hk.out.2.1, (eb _ _ (by omega)).trans Hk.out.2.2⟩) ?_
     clear hK
     refine HT.done (by kernel_rfl) ?_
     simp only [List.drop_succ_cons, List.drop_zero]
     have Hbz := hide (Hk.out.1.trans (hb9'.mono Hk.out.1.size))
     clear hb9 hb9' hS0 hS Hk eb
     by_cases hy0 : y = 0
     ·subst hy0
      have hkd := Hkd.out
      rw [if_pos rfl] at hkd
      have Hkd2 := hide hkd
      clear hkd Hkd
      go_wp2_with fail
      exact ⟨⟨k + 1, rfl, e1, e2, Hkd2.out, Hbz.out⟩, by simp [intOf]; omega⟩
     ·have hkd := Hkd.out
      rw [if_neg hy0] at hkd
      have y1 : (y == 0) = false := by simpa using hy0
      have y2 : (y != 0) = true := by simpa using hy0
      have Hkd2 := hide hkd
      clear hkd Hkd
      go_wp2_with fail
      go_ret
      have hfin := Hkd2.out
      subst hfin
      exact ⟨rfl, Hbz.out⟩
    ·rw [if_neg hx0] at hkd
     have x1 : (x == 0) = false := by simpa using hx0
     have x2 : (x != 0) = true := by simpa using hx0
     have Hkd := hide hkd
     clear hkd
     go_wp2_with fail
     go_quiet ((go_at_call 177; exact Calls.quiet_of_same (Hsc.out _)))
     go_wp2
     go_ret
     have hfin := Hkd.out
     subst hfin
     exact ⟨rfl, below_drewN Hb.out _⟩
   ·have hke : k = l2.length := by omega
    have hki2 : ¬ (k : Int) < (l2.length : Int) := by omega
    have hki3 : (l2.length : Int) ≤ (k : Int) := by omega
    have hd1 : d = 1 := by
     rw [← hkd, show l2.drop k = [] from List.drop_of_length_le (by omega), List.drop_eq_getElem_cons e1, T.cmpM]
    subst hd1
    have Hb := hide hb
    clear hb hkd hke
    go_wp2
    go_ret
    exact ⟨rfl, Hb.out⟩
  ·have hki1 : ¬ (k : Int) < (l1.length : Int) := by omega
   have hki3 : (l1.length : Int) ≤ (k : Int) := by omega
   by_cases e2 : k < l2.length
   ·have hki2 : (k : Int) < (l2.length : Int) := by omega
    have hd1 : d = -1 := by
     rw [← hkd, show l1.drop k = [] from List.drop_of_length_le (by omega), List.drop_eq_getElem_cons e2, T.cmpM]
    subst hd1
    have Hb := hide hb
    clear hb hkd
    go_wp2
    go_ret
    exact ⟨rfl, Hb.out⟩
   ·have hki2 : ¬ (k : Int) < (l2.length : Int) := by omega
    have hki4 : (l2.length : Int) ≤ (k : Int) := by omega
    have hd1 : d = 0 := by
     rw [← hkd, show l1.drop k = [] from List.drop_of_length_le (by omega), show l2.drop k = [] from List.drop_of_length_le (by omega), T.cmpM]
    subst hd1
    have Hb := hide hb
    clear hb hkd
    go_wp2
    go_ret
    exact ⟨rfl, Hb.out⟩

end Go.Proofs.YtbicoknghdgahaaGreat

namespace Go.Proofs.YtbicoknghdgahaaGreat
open Go.RowKit
attribute [local go_sem] run_store_float

structure PE2 (w : World) (a0 a1 a2 a3 b0 b1 b2 b3 : Value) (W : World) : Prop where
 below : Below w.heap.size w W
 a : Bk W w.heap.size 109 #[a0, a1, a2, a3]
 b : Bk W (w.heap.size + 1) 109 #[b0, b1, b2, b3]
section
variable {w W W' : World} {a0 a1 a2 a3 b0 b1 b2 b3 : Value}
theorem PE2.call (h : PE2 w a0 a1 a2 a3 b0 b1 b2 b3 W) (hb : Below W.heap.size W W') : PE2 w a0 a1 a2 a3 b0 b1 b2 b3 W' :=
 ⟨h.below.trans (hb.mono h.below.size), h.a.below hb h.a.lt, h.b.below hb h.b.lt⟩
theorem PE2.made (w : World) (a0 a1 a2 a3 b0 b1 b2 b3 : Value) : PE2 w a0 a1 a2 a3 b0 b1 b2 b3 ((w.alloc (.cells #[a0, a1, a2, a3] 109)).alloc (.cells #[b0, b1, b2, b3] 109)) := by
 refine ⟨below_two w _ _, (Bk.new _ _ _).alloc _, ?_⟩
 have := Bk.new (w.alloc (.cells #[a0, a1, a2, a3] 109)) 109 #[b0, b1, b2, b3]
 simpa only [World.size_alloc] using this
theorem PE2.cells (h : PE2 w a0 a1 a2 a3 b0 b1 b2 b3 W) : W.cell? ⟨w.heap.size, 0, none⟩ = some a0 ∧ W.cell? ⟨w.heap.size, 1, none⟩ = some a1 ∧ W.cell? ⟨w.heap.size, 2, none⟩ = some a2 ∧ W.cell? ⟨w.heap.size, 3, none⟩ = some a3 ∧
  W.cell? ⟨w.heap.size + 1, 0, none⟩ = some b0 ∧ W.cell? ⟨w.heap.size + 1, 1, none⟩ = some b1 ∧ W.cell? ⟨w.heap.size + 1, 2, none⟩ = some b2 ∧ W.cell? ⟨w.heap.size + 1, 3, none⟩ = some b3 :=
 ⟨h.a.cell 0, h.a.cell 1, h.a.cell 2, h.a.cell 3, h.b.cell 0, h.b.cell 1, h.b.cell 2, h.b.cell 3⟩
end
structure PES (w : World) (a0 a1 a2 a3 b0 b1 b2 b3 : Value) (g1 g2 : Nat) (u v : Value) (W : World) : Prop where
 st : PE2 w a0 a1 a2 a3 b0 b1 b2 b3 W
 u : W.cell? ⟨g1, 0, none⟩ = some u
 v : W.cell? ⟨g2, 0, none⟩ = some v
theorem PES.call {w W W' : World} {a0 a1 a2 a3 b0 b1 b2 b3 : Value} {g1 g2 : Nat} {u v : Value} (h : PES w a0 a1 a2 a3 b0 b1 b2 b3 g1 g2 u v W) (hb : Below W.heap.size W W') (h1 : g1 < W.heap.size) (h2 : g2 < W.heap.size) : PES w a0 a1 a2 a3 b0 b1 b2 b3 g1 g2 u v W' :=
 ⟨h.st.call hb, ((bcell hb).1 _ _ h1).trans h.u, ((bcell hb).1 _ _ h2).trans h.v⟩

set_option maxRecDepth 100000 in
theorem peCompare_01 (g1 g2 : Nat) (w : World) : Calls Tryz.prog 124 #[.agg #[.pointer (some ⟨g1, 0, none⟩), .pointer none, .pointer none, .pointer none], .agg #[.pointer none, .pointer (some ⟨g2, 0, none⟩), .pointer none, .pointer none]] w (CmpPost (-1) w) := by
 go_enter Tryz.func124, Tryz.ntmps124
 go_wp2
 go_ret
 exact ⟨rfl, below_two _ _ _⟩
set_option maxRecDepth 100000 in
theorem peCompare_02 (g1 g2 : Nat) (w : World) : Calls Tryz.prog 124 #[.agg #[.pointer (some ⟨g1, 0, none⟩), .pointer none, .pointer none, .pointer none], .agg #[.pointer none, .pointer none, .pointer (some ⟨g2, 0, none⟩), .pointer none]] w (CmpPost (-1) w) := by
 go_enter Tryz.func124, Tryz.ntmps124
 go_wp2
 go_ret
 exact ⟨rfl, below_two _ _ _⟩
set_option maxRecDepth 100000 in
theorem peCompare_03 (g1 g2 : Nat) (w : World) : Calls Tryz.prog 124 #[.agg #[.pointer (some ⟨g1, 0, none⟩), .pointer none, .pointer none, .pointer none], .agg #[.pointer none, .pointer none, .pointer none, .pointer (some ⟨g2, 0, none⟩)]] w (CmpPost (-1) w) := by
 go_enter Tryz.func124, Tryz.ntmps124
 go_wp2
 go_ret
 exact ⟨rfl, below_two _ _ _⟩
set_option maxRecDepth 100000 in
theorem peCompare_10 (g1 g2 : Nat) (w : World) : Calls Tryz.prog 124 #[.agg #[.pointer none, .pointer (some ⟨g1, 0, none⟩), .pointer none, .pointer none], .agg #[.pointer (some ⟨g2, 0, none⟩), .pointer none, .pointer none, .pointer none]] w (CmpPost (1) w) := by
 go_enter Tryz.func124, Tryz.ntmps124
 go_wp2
 go_ret
 exact ⟨rfl, below_two _ _ _⟩
set_option maxRecDepth 100000 in
theorem peCompare_12 (g1 g2 : Nat) (w : World) : Calls Tryz.prog 124 #[.agg #[.pointer none, .pointer (some ⟨g1, 0, none⟩), .pointer none, .pointer none], .agg #[.pointer none, .pointer none, .pointer (some ⟨g2, 0, none⟩), .pointer none]] w (CmpPost (-1) w) := by
 go_enter Tryz.func124, Tryz.ntmps124
 go_wp2
 go_ret
 exact ⟨rfl, below_two _ _ _⟩
set_option maxRecDepth 100000 in
theorem peCompare_13 (g1 g2 : Nat) (w : World) : Calls Tryz.prog 124 #[.agg #[.pointer none, .pointer (some ⟨g1, 0, none⟩), .pointer none, .pointer none], .agg #[.pointer none, .pointer none, .pointer none, .pointer (some ⟨g2, 0, none⟩)]] w (CmpPost (-1) w) := by
 go_enter Tryz.func124, Tryz.ntmps124
 go_wp2
 go_ret
 exact ⟨rfl, below_two _ _ _⟩
set_option maxRecDepth 100000 in
theorem peCompare_20 (g1 g2 : Nat) (w : World) : Calls Tryz.prog 124 #[.agg #[.pointer none, .pointer none, .pointer (some ⟨g1, 0, none⟩), .pointer none], .agg #[.pointer (some ⟨g2, 0, none⟩), .pointer none, .pointer none, .pointer none]] w (CmpPost (1) w) := by
 go_enter Tryz.func124, Tryz.ntmps124
 go_wp2
 go_ret
 exact ⟨rfl, below_two _ _ _⟩
set_option maxRecDepth 100000 in
theorem peCompare_21 (g1 g2 : Nat) (w : World) : Calls Tryz.prog 124 #[.agg #[.pointer none, .pointer none, .pointer (some ⟨g1, 0, none⟩), .pointer none], .agg #[.pointer none, .pointer (some ⟨g2, 0, none⟩), .pointer none, .pointer none]] w (CmpPost (1) w) := by
 go_enter Tryz.func124, Tryz.ntmps124
 go_wp2
 go_ret
 exact ⟨rfl, below_two _ _ _⟩
set_option maxRecDepth 100000 in
theorem peCompare_23 (g1 g2 : Nat) (w : World) : Calls Tryz.prog 124 #[.agg #[.pointer none, .pointer none, .pointer (some ⟨g1, 0, none⟩), .pointer none], .agg #[.pointer none, .pointer none, .pointer none, .pointer (some ⟨g2, 0, none⟩)]] w (CmpPost (-1) w) := by
 go_enter Tryz.func124, Tryz.ntmps124
 go_wp2
 go_ret
 exact ⟨rfl, below_two _ _ _⟩
set_option maxRecDepth 100000 in
theorem peCompare_30 (g1 g2 : Nat) (w : World) : Calls Tryz.prog 124 #[.agg #[.pointer none, .pointer none, .pointer none, .pointer (some ⟨g1, 0, none⟩)], .agg #[.pointer (some ⟨g2, 0, none⟩), .pointer none, .pointer none, .pointer none]] w (CmpPost (1) w) := by
 go_enter Tryz.func124, Tryz.ntmps124
 go_wp2
 go_ret
 exact ⟨rfl, below_two _ _ _⟩
set_option maxRecDepth 100000 in
theorem peCompare_31 (g1 g2 : Nat) (w : World) : Calls Tryz.prog 124 #[.agg #[.pointer none, .pointer none, .pointer none, .pointer (some ⟨g1, 0, none⟩)], .agg #[.pointer none, .pointer (some ⟨g2, 0, none⟩), .pointer none, .pointer none]] w (CmpPost (1) w) := by
 go_enter Tryz.func124, Tryz.ntmps124
 go_wp2
 go_ret
 exact ⟨rfl, below_two _ _ _⟩
set_option maxRecDepth 100000 in
theorem peCompare_32 (g1 g2 : Nat) (w : World) : Calls Tryz.prog 124 #[.agg #[.pointer none, .pointer none, .pointer none, .pointer (some ⟨g1, 0, none⟩)], .agg #[.pointer none, .pointer none, .pointer (some ⟨g2, 0, none⟩), .pointer none]] w (CmpPost (1) w) := by
 go_enter Tryz.func124, Tryz.ntmps124
 go_wp2
 go_ret
 exact ⟨rfl, below_two _ _ _⟩
set_option maxRecDepth 100000 in
set_option maxHeartbeats 1000000 in
theorem peCompare_00 (s1 s2 : ByteArray) (g1 g2 : Nat) (w : World) (l1 : g1 < w.heap.size) (l2 : g2 < w.heap.size) (b1 : Bk w g1 9 #[.string s1]) (b2 : Bk w g2 9 #[.string s2]) :
  Calls Tryz.prog 124 #[.agg #[.pointer (some ⟨g1, 0, none⟩), .pointer none, .pointer none, .pointer none], .agg #[.pointer (some ⟨g2, 0, none⟩), .pointer none, .pointer none, .pointer none]] w (CmpPost (cmpS s1 s2) w) := by
 have hsc := fun W => stringsCompare_same s1 s2 W
 generalize cmpS s1 s2 = d at *
 have Hsc := hide hsc
 clear hsc
 go_enter Tryz.func124, Tryz.ntmps124
 go_wp2_with fail
 have st := PE2.made w (.pointer (some ⟨g1, 0, none⟩)) (.pointer none) (.pointer none) (.pointer none) (.pointer (some ⟨g2, 0, none⟩)) (.pointer none) (.pointer none) (.pointer none)
 have u0 := b1.cell 0
 have v0 := b2.cell 0
 simp at u0 v0
 rw [← (bcell st.below).1 _ _ l1] at u0
 rw [← (bcell st.below).1 _ _ l2] at v0
 generalize World.alloc (World.alloc w _) _ = W at st u0 v0 ⊢
 obtain ⟨p0, p1, p2, p3, q0, q1, q2, q3⟩ := st.cells
 have St := hide st.below
 clear b1 b2 st
 go_wp2_with fail
 go_quiet ((go_at_call 177; exact Calls.quiet_of_same (Hsc.out _)))
 go_wp2
 go_ret
 exact ⟨rfl, below_drewN St.out _⟩
set_option maxRecDepth 100000 in
set_option maxHeartbeats 1000000 in
theorem peCompare_11 (L1 L2 : List (ByteArray × T)) (A1 A2 : Option Addr) (c1 c2 : Nat) (g1 g2 : Nat) (w : World) (h1 : FLAt (Old w) w L1 A1 c1) (h2 : FLAt (Old w) w L2 A2 c2) (l1 : g1 < w.heap.size) (l2 : g2 < w.heap.size) (b1 : Bk w g1 198 #[.slice A1 L1.length c1]) (b2 : Bk w g2 198 #[.slice A2 L2.length c2]) :
  Calls Tryz.prog 124 #[.agg #[.pointer none, .pointer (some ⟨g1, 0, none⟩), .pointer none, .pointer none], .agg #[.pointer none, .pointer (some ⟨g2, 0, none⟩), .pointer none, .pointer none]] w (CmpPost (T.cmpM L1 L2) w) := by
 have hq := fun (W : World) (hb : Below w.heap.size w W) => flCompare_calls (h1.at_ hb) (h2.at_ hb)
 obtain ⟨d, hd⟩ : ∃ d, T.cmpM L1 L2 = d := ⟨_, rfl⟩
 rw [hd] at hq ⊢
 have Hq := hide hq
 clear hq hd h1 h2
 go_enter Tryz.func124, Tryz.ntmps124
 go_wp2_with fail
 have st := PE2.made w (.pointer none) (.pointer (some ⟨g1, 0, none⟩)) (.pointer none) (.pointer none) (.pointer none) (.pointer (some ⟨g2, 0, none⟩)) (.pointer none) (.pointer none)
 have u0 := b1.cell 0
 have v0 := b2.cell 0
 simp at u0 v0
 rw [← (bcell st.below).1 _ _ l1] at u0
 rw [← (bcell st.below).1 _ _ l2] at v0
 have hzs := st.below.size
 generalize World.alloc (World.alloc w _) _ = W at st u0 v0 hzs ⊢
 have hzz : PES w (.pointer none) (.pointer (some ⟨g1, 0, none⟩)) (.pointer none) (.pointer none) (.pointer none) (.pointer (some ⟨g2, 0, none⟩)) (.pointer none) (.pointer none) g1 g2 (.slice A1 L1.length c1) (.slice A2 L2.length c2) W := ⟨st, u0, v0⟩
 obtain ⟨p0, p1, p2, p3, q0, q1, q2, q3⟩ := st.cells
 have Hz := hide hzz
 clear b1 b2 st u0 v0 hzz
 go_wp2_with fail
 clear p0 p1 p2 p3 q0 q1 q2 q3
 have hS0 := Hz.out.call (below_drew (Below.refl W.heap.size W)) (by omega) (by omega)
 obtain ⟨S, hS⟩ : ∃ S, PES w (.pointer none) (.pointer (some ⟨g1, 0, none⟩)) (.pointer none) (.pointer none) (.pointer none) (.pointer (some ⟨g2, 0, none⟩)) (.pointer none) (.pointer none) g1 g2 (.slice A1 L1.length c1) (.slice A2 L2.length c2) = S := ⟨_, rfl⟩
 rw [hS] at hS0
 refine wp_region_head 9 S (by rfl) (by kernel_rfl) ?_
 iterate 8
  refine HT.nx (v := ?_) rfl (by kernel_rfl) (fun _ _ _ h => h) (Or.inl ⟨by rfl, ?_⟩) ‹_› ?_
  rotate_left
  ·intro W hSw; rw [← hS] at hSw; obtain ⟨hst, s8, s9⟩ := hSw; obtain ⟨s0, s1, s2, s3, s4, s5, s6, s7⟩ := hst.cells; clear hst; go_simp; with_reducible rfl
  simp only [Act.put, zzA, zzZ, zzS]
 refine HT.one 8 rfl (by kernel_rfl) (by rfl) (fun K hK => ?_)
 go_simp
 refine (Hq.out W.drew (below_drew Hz.out.st.below)).mono ?_
 rintro e w9 ⟨rfl, hb9⟩
 have hb9' : Below W.heap.size W w9 := below_drew' hb9
 go_simp
 refine hK.out _ _ (by rw [← hS]; exact Hz.out.call hb9' (by omega) (by omega)) ?_
 clear hK
 refine HT.done (by kernel_rfl) ?_
 simp only [List.drop_succ_cons, List.drop_zero]
 have Hb := hide (Hz.out.st.below.trans (hb9'.mono Hz.out.st.below.size))
 clear hS0 hS hb9 hb9'
 go_wp2
 go_ret
 exact ⟨rfl, Hb.out⟩
set_option maxRecDepth 100000 in
set_option maxHeartbeats 1000000 in
theorem peCompare_22 (t1 t2 : T) (q1 q2 : Addr) (g1 g2 : Nat) (w : World) (h1 : ValAt (Old w) w t1 (.iface 302 (.pointer (some q1)))) (h2 : ValAt (Old w) w t2 (.iface 302 (.pointer (some q2)))) (l1 : g1 < w.heap.size) (l2 : g2 < w.heap.size) (b1 : Bk w g1 112 #[.iface 302 (.pointer (some q1))]) (b2 : Bk w g2 112 #[.iface 302 (.pointer (some q2))]) :
  Calls Tryz.prog 124 #[.agg #[.pointer none, .pointer none, .pointer (some ⟨g1, 0, none⟩), .pointer none], .agg #[.pointer none, .pointer none, .pointer (some ⟨g2, 0, none⟩), .pointer none]] w (CmpPost (T.cmp t1 t2) w) := by
 have hq := fun (W : World) (hb : Below w.heap.size w W) => compareV_calls (h1.at_ hb) (h2.at_ hb)
 obtain ⟨d, hd⟩ : ∃ d, T.cmp t1 t2 = d := ⟨_, rfl⟩
 rw [hd] at hq ⊢
 have Hq := hide hq
 clear hq hd h1 h2
 go_enter Tryz.func124, Tryz.ntmps124
 go_wp2_with fail
 have st := PE2.made w (.pointer none) (.pointer none) (.pointer (some ⟨g1, 0, none⟩)) (.pointer none) (.pointer none) (.pointer none) (.pointer (some ⟨g2, 0, none⟩)) (.pointer none)
 have u0 := b1.cell 0
 have v0 := b2.cell 0
 simp at u0 v0
 rw [← (bcell st.below).1 _ _ l1] at u0
 rw [← (bcell st.below).1 _ _ l2] at v0
 have hzs := st.below.size
 generalize World.alloc (World.alloc w _) _ = W at st u0 v0 hzs ⊢
 have hzz : PES w (.pointer none) (.pointer none) (.pointer (some ⟨g1, 0, none⟩)) (.pointer none) (.pointer none) (.pointer none) (.pointer (some ⟨g2, 0, none⟩)) (.pointer none) g1 g2 (.iface 302 (.pointer (some q1))) (.iface 302 (.pointer (some q2))) W := ⟨st, u0, v0⟩
 obtain ⟨p0, p1, p2, p3, q0, q1, q2, q3⟩ := st.cells
 have Hz := hide hzz
 clear b1 b2 st u0 v0 hzz
 go_wp2_with fail
 clear p0 p1 p2 p3 q0 q1 q2 q3
 have hS0 := Hz.out.call (below_drew (Below.refl W.heap.size W)) (by omega) (by omega)
 obtain ⟨S, hS⟩ : ∃ S, PES w (.pointer none) (.pointer none) (.pointer (some ⟨g1, 0, none⟩)) (.pointer none) (.pointer none) (.pointer none) (.pointer (some ⟨g2, 0, none⟩)) (.pointer none) g1 g2 (.iface 302 (.pointer (some q1))) (.iface 302 (.pointer (some q2))) = S := ⟨_, rfl⟩
 rw [hS] at hS0
 refine wp_region_head 9 S (by rfl) (by kernel_rfl) ?_
 iterate 8
  refine HT.nx (v := ?_) rfl (by kernel_rfl) (fun _ _ _ h => h) (Or.inl ⟨by rfl, ?_⟩) ‹_› ?_
  rotate_left
  ·intro W hSw; rw [← hS] at hSw; obtain ⟨hst, s8, s9⟩ := hSw; obtain ⟨s0, s1, s2, s3, s4, s5, s6, s7⟩ := hst.cells; clear hst; go_simp; with_reducible rfl
  simp only [Act.put, zzA, zzZ, zzS]
 refine HT.one 8 rfl (by kernel_rfl) (by rfl) (fun K hK => ?_)
 go_simp
 refine (Hq.out W.drew (below_drew Hz.out.st.below)).mono ?_
 rintro e w9 ⟨rfl, hb9⟩
 have hb9' : Below W.heap.size W w9 := below_drew' hb9
 go_simp
 refine hK.out _ _ (by rw [← hS]; exact Hz.out.call hb9' (by omega) (by omega)) ?_
 clear hK
 refine HT.done (by kernel_rfl) ?_
 simp only [List.drop_succ_cons, List.drop_zero]
 have Hb := hide (Hz.out.st.below.trans (hb9'.mono Hz.out.st.below.size))
 clear hS0 hS hb9 hb9'
 go_wp2
 go_ret
 exact ⟨rfl, Hb.out⟩
set_option maxRecDepth 100000 in
set_option maxHeartbeats 1000000 in
theorem peCompare_33 (n1 n2 : Int) (g1 g2 : Nat) (w : World) (o1 : okInt n1) (o2 : okInt n2) (l1 : g1 < w.heap.size) (l2 : g2 < w.heap.size) (b1 : Bk w g1 3 #[.int .i64 n1]) (b2 : Bk w g2 3 #[.int .i64 n2]) :
  Calls Tryz.prog 124 #[.agg #[.pointer none, .pointer none, .pointer none, .pointer (some ⟨g1, 0, none⟩)], .agg #[.pointer none, .pointer none, .pointer none, .pointer (some ⟨g2, 0, none⟩)]] w (CmpPost (cmpI n1 n2) w) := by
 have x1 := o1.1
 have x2 := o1.2
 have x3 := o2.1
 have x4 := o2.2
 clear o1 o2
 by_cases hlt : n1 < n2
 ·rw [show cmpI n1 n2 = -1 by unfold cmpI; rw [if_pos hlt]]
  go_enter Tryz.func124, Tryz.ntmps124
  go_wp2_with fail
  have st := PE2.made w (.pointer none) (.pointer none) (.pointer none) (.pointer (some ⟨g1, 0, none⟩)) (.pointer none) (.pointer none) (.pointer none) (.pointer (some ⟨g2, 0, none⟩))
  have u0 := b1.cell 0
  have v0 := b2.cell 0
  simp at u0 v0
  rw [← (bcell st.below).1 _ _ l1] at u0
  rw [← (bcell st.below).1 _ _ l2] at v0
  generalize World.alloc (World.alloc w _) _ = W at st u0 v0 ⊢
  obtain ⟨p0, p1, p2, p3, q0, q1, q2, q3⟩ := st.cells
  have St := hide st.below
  clear b1 b2 st
  go_wp2_with fail
  go_quiet (fail)
  go_wp2
  go_ret
  exact ⟨rfl, below_drewN St.out _⟩
 by_cases he : n1 = n2
 ·subst he
  rw [show cmpI n1 n1 = 0 from cmpI_zero.2 rfl]
  go_enter Tryz.func124, Tryz.ntmps124
  go_wp2_with fail
  have st := PE2.made w (.pointer none) (.pointer none) (.pointer none) (.pointer (some ⟨g1, 0, none⟩)) (.pointer none) (.pointer none) (.pointer none) (.pointer (some ⟨g2, 0, none⟩))
  have u0 := b1.cell 0
  have v0 := b2.cell 0
  simp at u0 v0
  rw [← (bcell st.below).1 _ _ l1] at u0
  rw [← (bcell st.below).1 _ _ l2] at v0
  generalize World.alloc (World.alloc w _) _ = W at st u0 v0 ⊢
  obtain ⟨p0, p1, p2, p3, q0, q1, q2, q3⟩ := st.cells
  have St := hide st.below
  clear b1 b2 st
  go_wp2_with fail
  go_quiet (fail)
  go_wp2_with fail
  go_quiet (fail)
  go_wp2
  go_ret
  exact ⟨rfl, below_drewN (below_drewN St.out _) _⟩
 ·rw [show cmpI n1 n2 = 1 by unfold cmpI; rw [if_neg hlt, if_pos (by omega)]]
  have he' : (n1 == n2) = false := by simpa using he
  go_enter Tryz.func124, Tryz.ntmps124
  go_wp2_with fail
  have st := PE2.made w (.pointer none) (.pointer none) (.pointer none) (.pointer (some ⟨g1, 0, none⟩)) (.pointer none) (.pointer none) (.pointer none) (.pointer (some ⟨g2, 0, none⟩))
  have u0 := b1.cell 0
  have v0 := b2.cell 0
  simp at u0 v0
  rw [← (bcell st.below).1 _ _ l1] at u0
  rw [← (bcell st.below).1 _ _ l2] at v0
  generalize World.alloc (World.alloc w _) _ = W at st u0 v0 ⊢
  obtain ⟨p0, p1, p2, p3, q0, q1, q2, q3⟩ := st.cells
  have St := hide st.below
  clear b1 b2 st
  go_wp2_with fail
  go_quiet (fail)
  go_wp2_with fail
  go_quiet (fail)
  go_wp2
  go_ret
  exact ⟨rfl, below_drewN (below_drewN St.out _) _⟩

theorem peCompare_calls {e1 e2 : E} {cs1 cs2 : List Value} {w : World} (h1 : PEAt (Old w) w e1 cs1) (h2 : PEAt (Old w) w e2 cs2) : Calls Tryz.prog 124 #[.agg cs1.toArray, .agg cs2.toArray] w (CmpPost (E.cmp e1 e2) w) := by
 cases h1
 case field =>
  rename_i s1 g1 xs xF xB
  cases h2
  case field =>
   rename_i s2 g2 ys yF yB
   exact peCompare_00 _ _ _ _ w xF yF xB yB
  case key => exact peCompare_01 _ _ w
  case val => exact peCompare_02 _ _ w
  case idx => exact peCompare_03 _ _ w
 case key =>
  rename_i L1 g1 A1 c1 xF xB xL
  cases h2
  case field => exact peCompare_10 _ _ w
  case key =>
   rename_i L2 g2 A2 c2 yF yB yL
   exact peCompare_11 _ _ _ _ _ _ _ _ w xL yL xF yF xB yB
  case val => exact peCompare_12 _ _ w
  case idx => exact peCompare_13 _ _ w
 case val =>
  rename_i t1 g1 q1 xF xB xV
  cases h2
  case field => exact peCompare_20 _ _ w
  case key => exact peCompare_21 _ _ w
  case val =>
   rename_i t2 g2 q2 yF yB yV
   exact peCompare_22 _ _ _ _ _ _ w xV yV xF yF xB yB
  case idx => exact peCompare_23 _ _ w
 case idx =>
  rename_i n1 g1 xo xF xB
  cases h2
  case field => exact peCompare_30 _ _ w
  case key => exact peCompare_31 _ _ w
  case val => exact peCompare_32 _ _ w
  case idx =>
   rename_i n2 g2 yo yF yB
   exact peCompare_33 _ _ _ _ w xo yo xF yF xB yB
end Go.Proofs.YtbicoknghdgahaaGreat

namespace Go.Proofs.YtbicoknghdgahaaGreat
open Go.RowKit
attribute [local go_sem] run_store_float

theorem W2.drewN {w : World} {a0 a1 a2 a3 a4 a5 b0 b1 b2 b3 b4 b5 : Value} {W : World} (h : W2 w a0 a1 a2 a3 a4 a5 b0 b1 b2 b3 b4 b5 W) (m : Nat) : W2 w a0 a1 a2 a3 a4 a5 b0 b1 b2 b3 b4 b5 (W.drewN m) :=
 ⟨below_drewN h.below m, h.size, ⟨h.a.k0, h.a.k1, h.a.k2, h.a.k3, h.a.k4, h.a.k5⟩, ⟨h.b.k0, h.b.k1, h.b.k2, h.b.k3, h.b.k4, h.b.k5⟩⟩

end Go.Proofs.YtbicoknghdgahaaGreat

namespace Go.Proofs.YtbicoknghdgahaaGreat
open Go.RowKit
attribute [local go_sem] run_store_float

section
variable {P : Program} {l : List Oper} {Q : Exit → Act → World → Prop} {S : World → Prop} {n : Nat}
theorem HT.two (i j : Nat) {oi oj : Oper} {ri rj : List Oper} {f : Nat} {listed : Array Bool} {a : Act} {w : World} (hdi : l.drop i = oi :: ri) (hdj : l.drop j = oj :: rj)
  (hr : (Region.ready .any l.toArray listed == [i, j] && decide (i < n) && decide (j < n)) = true)
  (hwi : Region.wanted oi (yielded l.toArray a.tmps) = true) (hwj : Region.wanted oj (yielded l.toArray a.tmps) = true)
  (hi : ∀ K : Act → World → Prop, Held (∀ a' w', S w' → HT P l Q S n f (listed.setIfInBounds i true) a' w' → K a' w') → oi.wp P a w K Q)
  (hj : ∀ K : Act → World → Prop, Held (∀ a' w', S w' → HT P l Q S n f (listed.setIfInBounds j true) a' w' → K a' w') → oj.wp P a w K Q) : HT P l Q S n (f + 1) listed a w := by
 intro inv
 replace hi : wpOp P l.toArray Q i (fun a' w' => S w' ∧ HT P l Q S n f (listed.setIfInBounds i true) a' w') a w := by
  unfold wpOp
  simp only [at_of_drop hdi, hwi, if_true]
  exact .inl (hi _ fun a' w' h1 h2 => ⟨h1, h2⟩)
 replace hj : wpOp P l.toArray Q j (fun a' w' => S w' ∧ HT P l Q S n f (listed.setIfInBounds j true) a' w') a w := by
  unfold wpOp
  simp only [at_of_drop hdj, hwj, if_true]
  exact .inl (hj _ fun a' w' h1 h2 => ⟨h1, h2⟩)
 simp only [Bool.and_eq_true, beq_iff_eq, decide_eq_true_eq] at hr
 obtain ⟨⟨hr, hin⟩, hjn⟩ := hr
 refine ⟨by rw [hr]; simp, fun m hm => ?_⟩
 have hmij : m = i ∨ m = j := by rw [hr] at hm; simpa using hm
 rcases hmij with rfl | rfl
 ·exact ⟨hin, wpOp_mono (fun a' w' h' => ⟨h'.1, h'.2 (inv.set hm hin)⟩) hi⟩
 ·exact ⟨hjn, wpOp_mono (fun a' w' h' => ⟨h'.1, h'.2 (inv.set hm hjn)⟩) hj⟩
end

end Go.Proofs.YtbicoknghdgahaaGreat

namespace Go.Proofs.YtbicoknghdgahaaGreat
open Go.RowKit

section
variable {P : Program} {l : List Oper} {Q : Exit → Act → World → Prop} {S : World → Prop} {n : Nat}

def leftN (listed : Array Bool) : Nat → Nat
 | 0 => 0
 | n + 1 => leftN listed n + (if listed.getD n true = false then 1 else 0)

theorem getD_set_self (listed : Array Bool) (i : Nat) : (listed.setIfInBounds i true).getD i true = true := by
 rcases Nat.lt_or_ge i listed.size with h | h
 ·simp [Array.getD, h]
 ·simp [Array.getD, Nat.not_lt.2 h]
theorem leftN_set (listed : Array Bool) {i : Nat} (hun : listed.getD i true = false) : ∀ n, leftN (listed.setIfInBounds i true) n + (if i < n then 1 else 0) = leftN listed n
 | 0 => by simp [leftN]
 | n + 1 => by
  have ih := leftN_set listed hun n
  rw [leftN, leftN]
  by_cases hin : i = n
  ·subst hin
   rw [getD_set_self, hun]
   simp at ih ⊢
   exact ih
  ·rw [getD_set_ne true hin]
   by_cases h1 : i < n
   ·rw [if_pos h1] at ih
    rw [if_pos (show i < n + 1 by omega)]
    omega
   ·rw [if_neg h1] at ih
    rw [if_neg (show ¬ i < n + 1 by omega)]
    omega
theorem leftN_zero {listed : Array Bool} : ∀ {n : Nat}, leftN listed n = 0 → ∀ i, i < n → listed.getD i true = true
 | 0, _, i, hi => by omega
 | n + 1, h, i, hi => by
  rw [leftN] at h
  by_cases hin : i = n
  ·subst hin
   cases hg : listed.getD i true
   ·rw [hg] at h
    simp at h
   ·rfl
  ·exact leftN_zero (n := n) (by omega) i (by omega)
theorem leftN_pos {listed : Array Bool} : ∀ {n : Nat}, leftN listed n ≠ 0 → ∃ i, i < n ∧ listed.getD i true = false
 | 0, h => absurd rfl h
 | n + 1, h => by
  cases hg : listed.getD n true
  ·exact ⟨n, by omega, hg⟩
  ·rw [leftN, hg] at h
   obtain ⟨i, h1, h2⟩ := leftN_pos (n := n) (by simpa using h)
   exact ⟨i, by omega, h2⟩

def afterB (l : List Oper) (n : Nat) : Bool := (List.range n).all fun j => match l.toArray[j]? with | some o => o.after.all fun e => decide (e.on < j) | none => false
def headDone (l : List Oper) (n : Nat) : Array Bool := ((List.range l.length).map fun j => decide (j < n)).toArray

theorem ready_any (hA : afterB l n = true) {listed : Array Bool} (hsz : n ≤ listed.size) : ∀ i, i < n → listed.getD i true = false → Region.ready .any l.toArray listed ≠ [] := by
 intro i
 induction i using Nat.strongRecOn with
 | ind i ih =>
 intro hi hun
 have hj := List.all_eq_true.1 hA i (List.mem_range.2 hi)
 cases ho : l.toArray[i]? with
 | none => rw [ho] at hj; cases hj
 | some o =>
  rw [ho] at hj
  by_cases hall : ∀ e ∈ o.after, Region.binds .any e = true → listed.getD e.on false = true
  ·have : i ∈ Region.ready .any l.toArray listed := mem_ready.2 ⟨hun, o, ho, hall⟩
   intro h0
   rw [h0] at this
   cases this
  ·obtain ⟨e, he⟩ := Classical.not_forall.1 hall
   obtain ⟨h1, he⟩ := Classical.not_imp.1 he
   obtain ⟨h2, h3⟩ := Classical.not_imp.1 he
   have h4 : e.on < i := by
    have := Array.all_eq_true'.1 hj e h1
    simpa using this
   refine ih e.on h4 (by omega) ?_
   have h5 : e.on < listed.size := by omega
   simp [Array.getD, h5] at h3 ⊢
   exact h3

theorem HT.inv (I : Act → Array Bool → Act → World → Prop) {a0 : Act} (hB : headB l n = true) (hA : afterB l n = true) (hseq : Region.seqB .any l.toArray (l.toArray.size - n) n (headDone l n) = true)
  (step : ∀ i oi listed a w, i < n → l.toArray[i]? = some oi → listed.getD i true = false → I a0 listed a w →
   Region.wanted oi (yielded l.toArray a.tmps) = true ∧ ∀ K : Act → World → Prop, Held (∀ a' w', S w' → I a0 (listed.setIfInBounds i true) a' w' → K a' w') → oi.wp P a w K Q)
  (fin : ∀ listed a w, (∀ i, i < n → listed.getD i true = true) → I a0 listed a w → wpList P l.toArray Q (l.drop n) a w) :
  ∀ (f : Nat) (listed : Array Bool) (a : Act) (w : World), leftN listed n = f → I a0 listed a w → HT P l Q S n f listed a w := by
 simp only [headB, Bool.and_eq_true, decide_eq_true_eq] at hB
 obtain ⟨⟨⟨hsel, hn⟩, hs⟩, hc⟩ := hB
 intro f
 induction f with
 | zero =>
  intro listed a w hl hI inv
  have hd := leftN_zero hl
  have he : listed = headDone l n := by
   have hsz := inv.size
   refine Array.ext (by simp [headDone, hsz]) fun j h1 h2 => ?_
   rcases Nat.lt_or_ge j n with h | h
   ·have := hd j h
    simp [Array.getD, h1] at this
    simp [headDone, this, h]
   ·have := inv.tail j h (by omega)
    simp [Array.getD, h1] at this
    simp [headDone, this]
    omega
  exact ⟨by rw [he]; exact hseq, fin listed a w hd hI⟩
 | succ f ih =>
  intro listed a w hl hI inv
  have hsz := inv.size
  obtain ⟨i0, hi0, hun0⟩ := leftN_pos (listed := listed) (n := n) (by omega)
  refine ⟨ready_any hA (by omega) i0 hi0 hun0, fun j hj => ?_⟩
  have hjn : j < n := by
   rcases Nat.lt_or_ge j n with h | h
   ·exact h
   ·exact absurd hj (tail_waits hs hc hn inv _ i0 rfl hi0 hun0 j h)
  obtain ⟨hjun, oj, hoj, _⟩ := mem_ready.1 hj
  obtain ⟨hw, hst⟩ := step j oj listed a w hjn hoj hjun hI
  refine ⟨hjn, ?_⟩
  have hl' : leftN (listed.setIfInBounds j true) n = f := by
   have := leftN_set listed hjun n
   rw [if_pos hjn] at this
   omega
  have h1 : wpOp P l.toArray Q j (fun a' w' => S w' ∧ HT P l Q S n f (listed.setIfInBounds j true) a' w') a w := by
   unfold wpOp
   simp only [hoj, hw, if_true]
   exact .inl (hst _ fun a' w' h1 h2 => ⟨h1, ih _ a' w' hl' h2⟩)
  exact wpOp_mono (fun a' w' h' => ⟨h'.1, h'.2 (inv.set hj hjn)⟩) h1

theorem HT.inv0 (I : Act → Array Bool → Act → World → Prop) {a0 : Act} {f : Nat} {listed0 : Array Bool} {w0 : World} (hB : headB l n = true) (hA : afterB l n = true) (hseq : Region.seqB .any l.toArray (l.toArray.size - n) n (headDone l n) = true) (hl : leftN listed0 n = f) (h0 : I a0 listed0 a0 w0)
  (step : ∀ i oi listed a w, i < n → l.toArray[i]? = some oi → listed.getD i true = false → I a0 listed a w →
   Region.wanted oi (yielded l.toArray a.tmps) = true ∧ ∀ K : Act → World → Prop, Held (∀ a' w', S w' → I a0 (listed.setIfInBounds i true) a' w' → K a' w') → oi.wp P a w K Q)
  (fin : ∀ listed a w, (∀ i, i < n → listed.getD i true = true) → I a0 listed a w → wpList P l.toArray Q (l.drop n) a w) : HT P l Q S n f listed0 a0 w0 :=
 HT.inv I hB hA hseq step fin f listed0 a0 w0 hl h0
end

end Go.Proofs.YtbicoknghdgahaaGreat
