/- Parts: ElemCmp, ElemSetTo, AlgP, AlgQ, UnionP, Both. -/
import Derived.Test.YtbicoknghdgahaaGreatKG04
import Derived.Test.YtbicoknghdgahaaGreatKJ03
set_option linter.unusedVariables false
set_option linter.unusedSimpArgs false
namespace Go.Proofs.YtbicoknghdgahaaGreat
open Go.RowKit
attribute [local go_sem] run_store_float

set_option maxRecDepth 100000 in
theorem peEquals_01 (g1 g2 : Nat) (w : World) : Calls Tryz.prog 101 #[.agg #[.pointer (some ⟨g1, 0, none⟩), .pointer none, .pointer none, .pointer none], .agg #[.pointer none, .pointer (some ⟨g2, 0, none⟩), .pointer none, .pointer none]] w (EqPost false w) := by
 go_enter Tryz.func101, Tryz.ntmps101
 go_wp2
 go_ret
 exact ⟨rfl, below_two _ _ _⟩
set_option maxRecDepth 100000 in
theorem peEquals_02 (g1 g2 : Nat) (w : World) : Calls Tryz.prog 101 #[.agg #[.pointer (some ⟨g1, 0, none⟩), .pointer none, .pointer none, .pointer none], .agg #[.pointer none, .pointer none, .pointer (some ⟨g2, 0, none⟩), .pointer none]] w (EqPost false w) := by
 go_enter Tryz.func101, Tryz.ntmps101
 go_wp2
 go_ret
 exact ⟨rfl, below_two _ _ _⟩
set_option maxRecDepth 100000 in
theorem peEquals_03 (g1 g2 : Nat) (w : World) : Calls Tryz.prog 101 #[.agg #[.pointer (some ⟨g1, 0, none⟩), .pointer none, .pointer none, .pointer none], .agg #[.pointer none, .pointer none, .pointer none, .pointer (some ⟨g2, 0, none⟩)]] w (EqPost false w) := by
 go_enter Tryz.func101, Tryz.ntmps101
 go_wp2
 go_ret
 exact ⟨rfl, below_two _ _ _⟩
set_option maxRecDepth 100000 in
theorem peEquals_10 (g1 g2 : Nat) (w : World) : Calls Tryz.prog 101 #[.agg #[.pointer none, .pointer (some ⟨g1, 0, none⟩), .pointer none, .pointer none], .agg #[.pointer (some ⟨g2, 0, none⟩), .pointer none, .pointer none, .pointer none]] w (EqPost false w) := by
 go_enter Tryz.func101, Tryz.ntmps101
 go_wp2
 go_ret
 exact ⟨rfl, below_two _ _ _⟩
set_option maxRecDepth 100000 in
theorem peEquals_12 (g1 g2 : Nat) (w : World) : Calls Tryz.prog 101 #[.agg #[.pointer none, .pointer (some ⟨g1, 0, none⟩), .pointer none, .pointer none], .agg #[.pointer none, .pointer none, .pointer (some ⟨g2, 0, none⟩), .pointer none]] w (EqPost false w) := by
 go_enter Tryz.func101, Tryz.ntmps101
 go_wp2
 go_ret
 exact ⟨rfl, below_two _ _ _⟩
set_option maxRecDepth 100000 in
theorem peEquals_13 (g1 g2 : Nat) (w : World) : Calls Tryz.prog 101 #[.agg #[.pointer none, .pointer (some ⟨g1, 0, none⟩), .pointer none, .pointer none], .agg #[.pointer none, .pointer none, .pointer none, .pointer (some ⟨g2, 0, none⟩)]] w (EqPost false w) := by
 go_enter Tryz.func101, Tryz.ntmps101
 go_wp2
 go_ret
 exact ⟨rfl, below_two _ _ _⟩
set_option maxRecDepth 100000 in
theorem peEquals_20 (g1 g2 : Nat) (w : World) : Calls Tryz.prog 101 #[.agg #[.pointer none, .pointer none, .pointer (some ⟨g1, 0, none⟩), .pointer none], .agg #[.pointer (some ⟨g2, 0, none⟩), .pointer none, .pointer none, .pointer none]] w (EqPost false w) := by
 go_enter Tryz.func101, Tryz.ntmps101
 go_wp2
 go_ret
 exact ⟨rfl, below_two _ _ _⟩
set_option maxRecDepth 100000 in
theorem peEquals_21 (g1 g2 : Nat) (w : World) : Calls Tryz.prog 101 #[.agg #[.pointer none, .pointer none, .pointer (some ⟨g1, 0, none⟩), .pointer none], .agg #[.pointer none, .pointer (some ⟨g2, 0, none⟩), .pointer none, .pointer none]] w (EqPost false w) := by
 go_enter Tryz.func101, Tryz.ntmps101
 go_wp2
 go_ret
 exact ⟨rfl, below_two _ _ _⟩
set_option maxRecDepth 100000 in
theorem peEquals_23 (g1 g2 : Nat) (w : World) : Calls Tryz.prog 101 #[.agg #[.pointer none, .pointer none, .pointer (some ⟨g1, 0, none⟩), .pointer none], .agg #[.pointer none, .pointer none, .pointer none, .pointer (some ⟨g2, 0, none⟩)]] w (EqPost false w) := by
 go_enter Tryz.func101, Tryz.ntmps101
 go_wp2
 go_ret
 exact ⟨rfl, below_two _ _ _⟩
set_option maxRecDepth 100000 in
theorem peEquals_30 (g1 g2 : Nat) (w : World) : Calls Tryz.prog 101 #[.agg #[.pointer none, .pointer none, .pointer none, .pointer (some ⟨g1, 0, none⟩)], .agg #[.pointer (some ⟨g2, 0, none⟩), .pointer none, .pointer none, .pointer none]] w (EqPost false w) := by
 go_enter Tryz.func101, Tryz.ntmps101
 go_wp2
 go_ret
 exact ⟨rfl, below_two _ _ _⟩
set_option maxRecDepth 100000 in
theorem peEquals_31 (g1 g2 : Nat) (w : World) : Calls Tryz.prog 101 #[.agg #[.pointer none, .pointer none, .pointer none, .pointer (some ⟨g1, 0, none⟩)], .agg #[.pointer none, .pointer (some ⟨g2, 0, none⟩), .pointer none, .pointer none]] w (EqPost false w) := by
 go_enter Tryz.func101, Tryz.ntmps101
 go_wp2
 go_ret
 exact ⟨rfl, below_two _ _ _⟩
set_option maxRecDepth 100000 in
theorem peEquals_32 (g1 g2 : Nat) (w : World) : Calls Tryz.prog 101 #[.agg #[.pointer none, .pointer none, .pointer none, .pointer (some ⟨g1, 0, none⟩)], .agg #[.pointer none, .pointer none, .pointer (some ⟨g2, 0, none⟩), .pointer none]] w (EqPost false w) := by
 go_enter Tryz.func101, Tryz.ntmps101
 go_wp2
 go_ret
 exact ⟨rfl, below_two _ _ _⟩
set_option maxRecDepth 100000 in
set_option maxHeartbeats 1000000 in
theorem peEquals_00 (s1 s2 : ByteArray) (g1 g2 : Nat) (w : World) (l1 : g1 < w.heap.size) (l2 : g2 < w.heap.size) (b1 : Bk w g1 9 #[.string s1]) (b2 : Bk w g2 9 #[.string s2]) :
  Calls Tryz.prog 101 #[.agg #[.pointer (some ⟨g1, 0, none⟩), .pointer none, .pointer none, .pointer none], .agg #[.pointer (some ⟨g2, 0, none⟩), .pointer none, .pointer none, .pointer none]] w (EqPost (decide (s1 = s2)) w) := by
 by_cases he : s1 = s2
 ·subst he
  have hst : (s1.toList == s1.toList) = true := by simp
  rw [decide_eq_true rfl]
  go_enter Tryz.func101, Tryz.ntmps101
  go_wp2_with fail
  have st := PE2.made w (.pointer (some ⟨g1, 0, none⟩)) (.pointer none) (.pointer none) (.pointer none) (.pointer (some ⟨g2, 0, none⟩)) (.pointer none) (.pointer none) (.pointer none)
  have u0 := b1.cell 0
  have v0 := b2.cell 0
  simp at u0 v0
  rw [← (bcell st.below).1 _ _ l1] at u0
  rw [← (bcell st.below).1 _ _ l2] at v0
  generalize World.alloc (World.alloc w _) _ = W at st u0 v0 ⊢
  obtain ⟨p0, p1, p2, p3, q0, q1, q2, q3⟩ := st.cells
  have St := hide st.below
  clear b1 b2 st
  go_wp2_with fail
  go_quiet (fail)
  go_wp2
  go_ret
  exact ⟨rfl, below_drewN St.out _⟩
 ·have hst : (s1.toList == s2.toList) = false := by rw [str_eq]; simpa using he
  rw [decide_eq_false he]
  clear he
  go_enter Tryz.func101, Tryz.ntmps101
  go_wp2_with fail
  have st := PE2.made w (.pointer (some ⟨g1, 0, none⟩)) (.pointer none) (.pointer none) (.pointer none) (.pointer (some ⟨g2, 0, none⟩)) (.pointer none) (.pointer none) (.pointer none)
  have u0 := b1.cell 0
  have v0 := b2.cell 0
  simp at u0 v0
  rw [← (bcell st.below).1 _ _ l1] at u0
  rw [← (bcell st.below).1 _ _ l2] at v0
  generalize World.alloc (World.alloc w _) _ = W at st u0 v0 ⊢
  obtain ⟨p0, p1, p2, p3, q0, q1, q2, q3⟩ := st.cells
  have St := hide st.below
  clear b1 b2 st
  go_wp2_with fail
  go_quiet (fail)
  go_wp2
  go_ret
  exact ⟨rfl, below_drewN St.out _⟩
set_option maxRecDepth 100000 in
set_option maxHeartbeats 1000000 in
theorem peEquals_11 (L1 L2 : List (ByteArray × T)) (A1 A2 : Option Addr) (c1 c2 : Nat) (g1 g2 : Nat) (w : World) (h1 : FLAt (Old w) w L1 A1 c1) (h2 : FLAt (Old w) w L2 A2 c2) (l1 : g1 < w.heap.size) (l2 : g2 < w.heap.size) (b1 : Bk w g1 198 #[.slice A1 L1.length c1]) (b2 : Bk w g2 198 #[.slice A2 L2.length c2]) :
  Calls Tryz.prog 101 #[.agg #[.pointer none, .pointer (some ⟨g1, 0, none⟩), .pointer none, .pointer none], .agg #[.pointer none, .pointer (some ⟨g2, 0, none⟩), .pointer none, .pointer none]] w (EqPost (T.eqvM L1 L2) w) := by
 have hq := fun (W : World) (hb : Below w.heap.size w W) => flEquals_calls (h1.at_ hb) (h2.at_ hb)
 obtain ⟨d, hd⟩ : ∃ d, T.eqvM L1 L2 = d := ⟨_, rfl⟩
 rw [hd] at hq ⊢
 have Hq := hide hq
 clear hq hd h1 h2
 go_enter Tryz.func101, Tryz.ntmps101
 go_wp2_with fail
 have st := PE2.made w (.pointer none) (.pointer (some ⟨g1, 0, none⟩)) (.pointer none) (.pointer none) (.pointer none) (.pointer (some ⟨g2, 0, none⟩)) (.pointer none) (.pointer none)
 have u0 := b1.cell 0
 have v0 := b2.cell 0
 simp at u0 v0
 rw [← (bcell st.below).1 _ _ l1] at u0
 rw [← (bcell st.below).1 _ _ l2] at v0
 have hzs := st.below.size
 generalize World.alloc (World.alloc w _) _ = W at st u0 v0 hzs ⊢
 have hzz : PES w (.pointer none) (.pointer (some ⟨g1, 0, none⟩)) (.pointer none) (.pointer none) (.pointer none) (.pointer (some ⟨g2, 0, none⟩)) (.pointer none) (.pointer none) g1 g2 (.slice A1 L1.length c1) (.slice A2 L2.length c2) W := ⟨st, u0, v0⟩
 obtain ⟨p0, p1, p2, p3, q0, q1, q2, q3⟩ := st.cells
 have Hz := hide hzz
 clear b1 b2 st u0 v0 hzz
 go_wp2_with fail
 clear p0 p1 p2 p3 q0 q1 q2 q3
 have hS0 := Hz.out.call (below_drew (Below.refl W.heap.size W)) (by omega) (by omega)
 obtain ⟨S, hS⟩ : ∃ S, PES w (.pointer none) (.pointer (some ⟨g1, 0, none⟩)) (.pointer none) (.pointer none) (.pointer none) (.pointer (some ⟨g2, 0, none⟩)) (.pointer none) (.pointer none) g1 g2 (.slice A1 L1.length c1) (.slice A2 L2.length c2) = S := ⟨_, rfl⟩
 rw [hS] at hS0
 refine wp_region_head 9 S (by rfl) (by kernel_rfl) ?_
 iterate 8
  refine HT.nx (v := ?_) rfl (by kernel_rfl) (fun _ _ _ h => h) (Or.inl ⟨by rfl, ?_⟩) ‹_› ?_
  rotate_left
  ·intro W hSw; rw [← hS] at hSw; obtain ⟨hst, s8, s9⟩ := hSw; obtain ⟨s0, s1, s2, s3, s4, s5, s6, s7⟩ := hst.cells; clear hst; go_simp; with_reducible rfl
  simp only [Act.put, zzA, zzZ, zzS]
 refine HT.one 8 rfl (by kernel_rfl) (by rfl) (fun K hK => ?_)
 go_simp
 refine (Hq.out W.drew (below_drew Hz.out.st.below)).mono ?_
 rintro e w9 ⟨rfl, hb9⟩
 have hb9' : Below W.heap.size W w9 := below_drew' hb9
 go_simp
 refine hK.out _ _ (by rw [← hS]; exact Hz.out.call hb9' (by omega) (by omega)) ?_
 clear hK
 refine HT.done (by kernel_rfl) ?_
 simp only [List.drop_succ_cons, List.drop_zero]
 have Hb := hide (Hz.out.st.below.trans (hb9'.mono Hz.out.st.below.size))
 clear hS0 hS hb9 hb9'
 go_wp2
 go_ret
 exact ⟨rfl, Hb.out⟩
set_option maxRecDepth 100000 in
set_option maxHeartbeats 1000000 in
theorem peEquals_22 (t1 t2 : T) (q1 q2 : Addr) (g1 g2 : Nat) (w : World) (h1 : ValAt (Old w) w t1 (.iface 302 (.pointer (some q1)))) (h2 : ValAt (Old w) w t2 (.iface 302 (.pointer (some q2)))) (l1 : g1 < w.heap.size) (l2 : g2 < w.heap.size) (b1 : Bk w g1 112 #[.iface 302 (.pointer (some q1))]) (b2 : Bk w g2 112 #[.iface 302 (.pointer (some q2))]) :
  Calls Tryz.prog 101 #[.agg #[.pointer none, .pointer none, .pointer (some ⟨g1, 0, none⟩), .pointer none], .agg #[.pointer none, .pointer none, .pointer (some ⟨g2, 0, none⟩), .pointer none]] w (EqPost (T.eqv t1 t2) w) := by
 have hq := fun (W : World) (hb : Below w.heap.size w W) => equalsV_calls (h1.at_ hb) (h2.at_ hb)
 obtain ⟨d, hd⟩ : ∃ d, T.eqv t1 t2 = d := ⟨_, rfl⟩
 rw [hd] at hq ⊢
 have Hq := hide hq
 clear hq hd h1 h2
 go_enter Tryz.func101, Tryz.ntmps101
 go_wp2_with fail
 have st := PE2.made w (.pointer none) (.pointer none) (.pointer (some ⟨g1, 0, none⟩)) (.pointer none) (.pointer none) (.pointer none) (.pointer (some ⟨g2, 0, none⟩)) (.pointer none)
 have u0 := b1.cell 0
 have v0 := b2.cell 0
 simp at u0 v0
 rw [← (bcell st.below).1 _ _ l1] at u0
 rw [← (bcell st.below).1 _ _ l2] at v0
 have hzs := st.below.size
 generalize World.alloc (World.alloc w _) _ = W at st u0 v0 hzs ⊢
 have hzz : PES w (.pointer none) (.pointer none) (.pointer (some ⟨g1, 0, none⟩)) (.pointer none) (.pointer none) (.pointer none) (.pointer (some ⟨g2, 0, none⟩)) (.pointer none) g1 g2 (.iface 302 (.pointer (some q1))) (.iface 302 (.pointer (some q2))) W := ⟨st, u0, v0⟩
 obtain ⟨p0, p1, p2, p3, q0, q1, q2, q3⟩ := st.cells
 have Hz := hide hzz
 clear b1 b2 st u0 v0 hzz
 go_wp2_with fail
 clear p0 p1 p2 p3 q0 q1 q2 q3
 have hS0 := Hz.out.call (below_drew (Below.refl W.heap.size W)) (by omega) (by omega)
 obtain ⟨S, hS⟩ : ∃ S, PES w (.pointer none) (.pointer none) (.pointer (some ⟨g1, 0, none⟩)) (.pointer none) (.pointer none) (.pointer none) (.pointer (some ⟨g2, 0, none⟩)) (.pointer none) g1 g2 (.iface 302 (.pointer (some q1))) (.iface 302 (.pointer (some q2))) = S := ⟨_, rfl⟩
 rw [hS] at hS0
 refine wp_region_head 9 S (by rfl) (by kernel_rfl) ?_
 iterate 8
  refine HT.nx (v := ?_) rfl (by kernel_rfl) (fun _ _ _ h => h) (Or.inl ⟨by rfl, ?_⟩) ‹_› ?_
  rotate_left
  ·intro W hSw; rw [← hS] at hSw; obtain ⟨hst, s8, s9⟩ := hSw; obtain ⟨s0, s1, s2, s3, s4, s5, s6, s7⟩ := hst.cells; clear hst; go_simp; with_reducible rfl
  simp only [Act.put, zzA, zzZ, zzS]
 refine HT.one 8 rfl (by kernel_rfl) (by rfl) (fun K hK => ?_)
 go_simp
 refine (Hq.out W.drew (below_drew Hz.out.st.below)).mono ?_
 rintro e w9 ⟨rfl, hb9⟩
 have hb9' : Below W.heap.size W w9 := below_drew' hb9
 go_simp
 refine hK.out _ _ (by rw [← hS]; exact Hz.out.call hb9' (by omega) (by omega)) ?_
 clear hK
 refine HT.done (by kernel_rfl) ?_
 simp only [List.drop_succ_cons, List.drop_zero]
 have Hb := hide (Hz.out.st.below.trans (hb9'.mono Hz.out.st.below.size))
 clear hS0 hS hb9 hb9'
 go_wp2
 go_ret
 exact ⟨rfl, Hb.out⟩
set_option maxRecDepth 100000 in
set_option maxHeartbeats 1000000 in
theorem peEquals_33 (n1 n2 : Int) (g1 g2 : Nat) (w : World) (o1 : okInt n1) (o2 : okInt n2) (l1 : g1 < w.heap.size) (l2 : g2 < w.heap.size) (b1 : Bk w g1 3 #[.int .i64 n1]) (b2 : Bk w g2 3 #[.int .i64 n2]) :
  Calls Tryz.prog 101 #[.agg #[.pointer none, .pointer none, .pointer none, .pointer (some ⟨g1, 0, none⟩)], .agg #[.pointer none, .pointer none, .pointer none, .pointer (some ⟨g2, 0, none⟩)]] w (EqPost (n1 == n2) w) := by
 have x1 := o1.1
 have x2 := o1.2
 have x3 := o2.1
 have x4 := o2.2
 clear o1 o2
 by_cases he : n1 = n2
 ·subst he
  rw [show (n1 == n1) = true by simp]
  go_enter Tryz.func101, Tryz.ntmps101
  go_wp2_with fail
  have st := PE2.made w (.pointer none) (.pointer none) (.pointer none) (.pointer (some ⟨g1, 0, none⟩)) (.pointer none) (.pointer none) (.pointer none) (.pointer (some ⟨g2, 0, none⟩))
  have u0 := b1.cell 0
  have v0 := b2.cell 0
  simp at u0 v0
  rw [← (bcell st.below).1 _ _ l1] at u0
  rw [← (bcell st.below).1 _ _ l2] at v0
  generalize World.alloc (World.alloc w _) _ = W at st u0 v0 ⊢
  obtain ⟨p0, p1, p2, p3, q0, q1, q2, q3⟩ := st.cells
  have St := hide st.below
  clear b1 b2 st
  go_wp2_with fail
  go_quiet (fail)
  go_wp2
  go_ret
  exact ⟨rfl, below_drewN St.out _⟩
 ·have he' : (n1 == n2) = false := by simpa using he
  rw [he']
  go_enter Tryz.func101, Tryz.ntmps101
  go_wp2_with fail
  have st := PE2.made w (.pointer none) (.pointer none) (.pointer none) (.pointer (some ⟨g1, 0, none⟩)) (.pointer none) (.pointer none) (.pointer none) (.pointer (some ⟨g2, 0, none⟩))
  have u0 := b1.cell 0
  have v0 := b2.cell 0
  simp at u0 v0
  rw [← (bcell st.below).1 _ _ l1] at u0
  rw [← (bcell st.below).1 _ _ l2] at v0
  generalize World.alloc (World.alloc w _) _ = W at st u0 v0 ⊢
  obtain ⟨p0, p1, p2, p3, q0, q1, q2, q3⟩ := st.cells
  have St := hide st.below
  clear b1 b2 st
  go_wp2_with fail
  go_quiet (fail)
  go_wp2
  go_ret
  exact ⟨rfl, below_drewN St.out _⟩

theorem peEquals_calls {e1 e2 : E} {cs1 cs2 : List Value} {w : World} (h1 : PEAt (Old w) w e1 cs1) (h2 : PEAt (Old w) w e2 cs2) : Calls Tryz.prog 101 #[.agg cs1.toArray, .agg cs2.toArray] w (EqPost (E.eqv e1 e2) w) := by
 cases h1
 case field =>
  rename_i s1 g1 xs xF xB
  cases h2
  case field =>
   rename_i s2 g2 ys yF yB
   exact peEquals_00 _ _ _ _ w xF yF xB yB
  case key => exact peEquals_01 _ _ w
  case val => exact peEquals_02 _ _ w
  case idx => exact peEquals_03 _ _ w
 case key =>
  rename_i L1 g1 A1 c1 xF xB xL
  cases h2
  case field => exact peEquals_10 _ _ w
  case key =>
   rename_i L2 g2 A2 c2 yF yB yL
   exact peEquals_11 _ _ _ _ _ _ _ _ w xL yL xF yF xB yB
  case val => exact peEquals_12 _ _ w
  case idx => exact peEquals_13 _ _ w
 case val =>
  rename_i t1 g1 q1 xF xB xV
  cases h2
  case field => exact peEquals_20 _ _ w
  case key => exact peEquals_21 _ _ w
  case val =>
   rename_i t2 g2 q2 yF yB yV
   exact peEquals_22 _ _ _ _ _ _ w xV yV xF yF xB yB
  case idx => exact peEquals_23 _ _ w
 case idx =>
  rename_i n1 g1 xo xF xB
  cases h2
  case field => exact peEquals_30 _ _ w
  case key => exact peEquals_31 _ _ w
  case val => exact peEquals_32 _ _ w
  case idx =>
   rename_i n2 g2 yo yF yB
   exact peEquals_33 _ _ _ _ w xo yo xF yF xB yB

end Go.Proofs.YtbicoknghdgahaaGreat

namespace Go.Proofs.YtbicoknghdgahaaGreat
open Go.RowKit
attribute [local go_sem] run_store_float

theorem esSizeC_calls {w : World} {g o n c : Nat} {A : Option Addr} (m0 : w.cell? ⟨g, o, none⟩ = some (.slice A n c)) : Calls Tryz.prog 140 #[.pointer (some ⟨g, o, none⟩)] w (fun en w' => en = .returned (.int .i64 (n : Int)) ∧ w' = w) := by
 go_enter Tryz.func140, Tryz.ntmps140
 go_wp2
 go_ret
 exact ⟨rfl, rfl⟩
end Go.Proofs.YtbicoknghdgahaaGreat

namespace Go.Proofs.YtbicoknghdgahaaGreat

def SOp.meet : SOp := ⟨false, false, true, false, false⟩
def SOp.less : SOp := ⟨true, false, false, false, false⟩
end Go.Proofs.YtbicoknghdgahaaGreat

namespace Go.Proofs.YtbicoknghdgahaaGreat

theorem not_emp_has {s : St} (h : s.emp = false) : ∃ p, p ∈ s.paths := by
 cases hp : s.paths with
 | nil => rw [emp_paths.2 hp] at h; cases h
 | cons p l => exact ⟨p, by simp⟩
theorem insC_mem_ne {e : E} (l : List E) : insC E.cmp e l ≠ [] := by
 cases l with
 | nil => simp [insC]
 | cons a l => rw [insC]; split <;> (try split) <;> simp
theorem insK_ne {e : E} {f : St → St} (ks : List (E × St)) : ∃ k ∈ insK e f ks, ∃ t, k.2 = f t := by
 induction ks with
 | nil => exact ⟨(e, f St.empty), by simp [insK], _, rfl⟩
 | cons a ks ih =>
  rw [insK]
  split
  ·obtain ⟨k, h1, h2⟩ := ih; exact ⟨k, by simp [h1], h2⟩
  ·split
   ·exact ⟨(a.1, f a.2), by simp, a.2, rfl⟩
   ·exact ⟨(e, f St.empty), by simp, St.empty, rfl⟩
theorem ins_emp : ∀ {p : List E} {s : St}, p ≠ [] → (St.ins p s).emp = false
 | [], _, h => absurd rfl h
 | [e], s, _ => by
  cases he : (St.ins [e] s).emp
  ·rfl
  ·exact absurd (emp_mk.1 he).1 (insC_mem_ne _)
 | e :: x :: p, s, _ => by
  cases he : (St.ins (e :: x :: p) s).emp
  ·rfl
  ·obtain ⟨k, h1, t, h2⟩ := insK_ne (e := e) (f := St.ins (x :: p)) s.kids
   have := (emp_mk.1 he).2 k h1
   rw [h2, ins_emp (by simp)] at this
   cases this
theorem ins_full : ∀ {p : List E} {s : St}, s.Full → (St.ins p s).Full
 | [], _, h => h
 | [e], s, h => by
  cases h with
  | mk h1 h2 => exact .mk h1 h2
 | e :: x :: p, s, h => by
  cases h with
  | mk h1 h2 =>
  refine .mk (fun k hk => ?_) fun k hk => ?_
  ·rcases mem_insK hk with rfl | ⟨k', h6, rfl⟩ | hk
   ·exact ins_emp (by simp)
   ·exact ins_emp (by simp)
   ·exact h1 k hk
  ·rcases mem_insK hk with rfl | ⟨k', h6, rfl⟩ | hk
   ·exact ins_full .empty_
   ·exact ins_full (h2 k' h6)
   ·exact h2 k hk
theorem setP_full (l : List (List E)) : (setP l).Full := by
 have : ∀ (l : List (List E)) (s : St), s.Full → (l.foldl (fun s p => St.ins p s) s).Full := by
  intro l
  induction l with
  | nil => exact fun s h => h
  | cons p l ih => exact fun s h => ih _ (ins_full h)
 exact this l _ .empty_

def eqE : List E → List E → Bool
 | [], [] => true
 | a :: l, b :: m => E.eqv a b && eqE l m
 | _, _ => false
def eqS : Nat → St → St → Bool
 | 0, _, _ => true
 | n + 1, .mk m ks, .mk m' ks' => eqE m m' && eqK (eqS n) ks ks'
where eqK (u : St → St → Bool) : List (E × St) → List (E × St) → Bool
 | [], [] => true
 | a :: l, b :: m => E.eqv a.1 b.1 && u a.2 b.2 && eqK u l m
 | _, _ => false
theorem eqE_alike : ∀ {l m : List E}, POk l → POk m → (eqE l m = true ↔ Alike E.cmp l m)
 | [], [], _, _ => by simp [eqE, Alike]
 | [], _ :: _, _, _ => by simp [eqE, Alike]
 | _ :: _, [], _, _ => by simp [eqE, Alike]
 | a :: l, b :: m, h1, h2 => by
  rw [eqE, Alike, Bool.and_eq_true, E.eqv_iff (h1 a (by simp)) (h2 b (by simp)), eqE_alike (fun x hx => h1 x (by simp [hx])) (fun x hx => h2 x (by simp [hx]))]
def AlikeK (u : St → St → Bool) : List (E × St) → List (E × St) → Prop
 | [], [] => True
 | a :: l, b :: m => E.cmp a.1 b.1 = 0 ∧ u a.2 b.2 = true ∧ AlikeK u l m
 | _, _ => False
theorem eqK_alike {u : St → St → Bool} : ∀ {l m : List (E × St)}, (∀ k ∈ l, k.1.Ok) → (∀ k ∈ m, k.1.Ok) → (eqS.eqK u l m = true ↔ AlikeK u l m)
 | [], [], _, _ => by simp [eqS.eqK, AlikeK]
 | [], _ :: _, _, _ => by simp [eqS.eqK, AlikeK]
 | _ :: _, [], _, _ => by simp [eqS.eqK, AlikeK]
 | a :: l, b :: m, h1, h2 => by
  rw [eqS.eqK, AlikeK, Bool.and_eq_true, Bool.and_eq_true, E.eqv_iff (h1 a (by simp)) (h2 b (by simp)), eqK_alike (fun x hx => h1 x (by simp [hx])) (fun x hx => h2 x (by simp [hx])), and_assoc]
theorem alikeK_find {u : St → St → Bool} {x : E} (hx : x.Ok) : ∀ {l m : List (E × St)}, (∀ k ∈ l, k.1.Ok) → (∀ k ∈ m, k.1.Ok) → AlikeK u l m → ∀ {a : St}, findK x l = some a → ∃ b, findK x m = some b ∧ u a b = true ∧ (∃ k ∈ l, k.2 = a) ∧ ∃ k ∈ m, k.2 = b
 | [], [], _, _, _, a, h => by cases h
 | [], _ :: _, _, _, h, _, _ => h.elim
 | _ :: _, [], _, _, h, _, _ => h.elim
 | k :: l, k' :: m, h1, h2, h, a, hf => by
  have e : E.cmp k.1 x = 0 ↔ E.cmp k'.1 x = 0 := ⟨fun e => E.ord_.eq_trans (h2 k' (by simp)) (h1 k (by simp)) hx (E.ord_.eq_turn (h1 k (by simp)) (h2 k' (by simp)) h.1) e, fun e => E.ord_.eq_trans (h1 k (by simp)) (h2 k' (by simp)) hx h.1 e⟩
  rw [findK] at hf
  by_cases h0 : E.cmp k.1 x = 0
  ·rw [if_pos h0] at hf
   cases hf
   exact ⟨k'.2, by rw [findK, if_pos (e.1 h0)], h.2.1, ⟨k, by simp, rfl⟩, ⟨k', by simp, rfl⟩⟩
  ·rw [if_neg h0] at hf
   obtain ⟨b, h3, h4, ⟨q, h5, h6⟩, ⟨q', h7, h8⟩⟩ := alikeK_find hx (fun x hx => h1 x (by simp [hx])) (fun x hx => h2 x (by simp [hx])) h.2.2 hf
   exact ⟨b, by rw [findK, if_neg fun h => h0 (e.2 h)]; exact h3, h4, ⟨q, by simp [h5], h6⟩, ⟨q', by simp [h7], h8⟩⟩
theorem alikeK_turn {u v : St → St → Bool} : ∀ {l m : List (E × St)}, (∀ k ∈ l, k.1.Ok) → (∀ k ∈ m, k.1.Ok) → (∀ a ∈ l, ∀ b ∈ m, u a.2 b.2 = true → v b.2 a.2 = true) → AlikeK u l m → AlikeK v m l
 | [], [], _, _, _, _ => trivial
 | [], _ :: _, _, _, _, h => h.elim
 | _ :: _, [], _, _, _, h => h.elim
 | k :: l, k' :: m, h1, h2, huv, h => ⟨E.ord_.eq_turn (h1 k (by simp)) (h2 k' (by simp)) h.1, huv k (by simp) k' (by simp) h.2.1, alikeK_turn (fun x hx => h1 x (by simp [hx])) (fun x hx => h2 x (by simp [hx])) (fun a ha b hb => huv a (by simp [ha]) b (by simp [hb])) h.2.2⟩
theorem alikeK_of {u : St → St → Bool} : ∀ {l m : List (E × St)}, Alike kcmp l m → (∀ (i : Nat) a b, l[i]? = some a → m[i]? = some b → u a.2 b.2 = true) → AlikeK u l m
 | [], [], _, _ => trivial
 | [], _ :: _, h, _ => h.elim
 | _ :: _, [], h, _ => h.elim
 | a :: l, b :: m, h, h' => ⟨h.1, h' 0 a b rfl rfl, alikeK_of h.2 fun i x y hx hy => h' (i + 1) x y (by simpa using hx) (by simpa using hy)⟩
theorem alike_get {α : Type} {c : α → α → Int} : ∀ {l m : List α}, Alike c l m → ∀ (i : Nat) a b, l[i]? = some a → m[i]? = some b → c a b = 0
 | [], _, _, i, a, b, h, _ => by simp at h
 | _ :: _, [], h, _, _, _, _, _ => h.elim
 | x :: l, y :: m, h, 0, a, b, h1, h2 => by simp at h1 h2; subst h1 h2; exact h.1
 | x :: l, y :: m, h, i + 1, a, b, h1, h2 => alike_get h.2 i a b (by simpa using h1) (by simpa using h2)
theorem eqS_sound : ∀ {n : Nat} {s t : St}, s.Ht n → t.Ht n → s.WF → t.WF → eqS n s t = true → ∀ {x : List E}, POk x → s.Has x → t.Has x
 | 0, _, _, hs, _, _, _, _, _, _, _ => by cases hs
 | n + 1, s, t, hs, ht, ws, wt, he, [], hx, h => absurd h (has_nil ws)
 | n + 1, .mk m ks, .mk m' ks', hs, ht, ws, wt, he, [e], hx, h => by
  have hx0 := hx e (by simp)
  rw [has_one wt]
  rw [has_one ws] at h
  rw [eqS, Bool.and_eq_true] at he
  cases ws with
  | mk h1 h2 h3 h4 h5 =>
  cases wt with
  | mk i1 i2 i3 i4 i5 =>
  exact (((eqE_alike h1 i1).1 he.1).has E.ord_ h1 i1 hx0).1 h
 | n + 1, .mk m ks, .mk m' ks', hs, ht, ws, wt, he, e :: y :: x, hx, h => by
  have hx0 := hx e (by simp)
  rw [has_cons wt hx0 (by simp)]
  rw [has_cons ws hx0 (by simp)] at h
  obtain ⟨a, ha, hax⟩ := h
  rw [eqS, Bool.and_eq_true] at he
  cases ws with
  | mk h1 h2 h3 h4 h5 =>
  cases wt with
  | mk i1 i2 i3 i4 i5 =>
  cases hs with
  | mk hs =>
  cases ht with
  | mk ht =>
  obtain ⟨b, hb, hu, ⟨k, hk, rfl⟩, ⟨k', hk', rfl⟩⟩ := alikeK_find hx0 h3 i3 ((eqK_alike h3 i3).1 he.2) ha
  exact ⟨_, hb, eqS_sound (hs k hk) (ht k' hk') (h5 k hk) (i5 k' hk') hu (fun z hz => hx z (by simp [hz])) hax⟩
theorem eqS_full : ∀ {n : Nat} {s t : St}, s.WF → t.WF → s.Full → t.Full → (∀ x, POk x → (s.Has x ↔ t.Has x)) → eqS n s t = true
 | 0, _, _, _, _, _, _, _ => rfl
 | n + 1, .mk m ks, .mk m' ks', ws, wt, fs, ft, h => by
  have key : ∀ {m m' : List E} {ks ks' : List (E × St)}, (St.mk m ks).WF → (St.mk m' ks').WF → (St.mk m ks).Full → (∀ x, POk x → ((St.mk m ks).Has x ↔ (St.mk m' ks').Has x)) → ∀ e : E × St, e.1.Ok → HasC kcmp ks e → HasC kcmp ks' e := by
   intro m m' ks ks' ws wt fs h e he hk
   obtain ⟨k, hk, hke⟩ := hk
   have ws' := ws
   have wt' := wt
   cases ws with
   | mk h1 h2 h3 h4 h5 =>
   cases wt with
   | mk i1 i2 i3 i4 i5 =>
   cases fs with
   | mk f1 f2 =>
   obtain ⟨p, hp⟩ := not_emp_has (f1 k hk)
   have hpo := paths_ok (h5 k hk) p hp
   have h6 : (St.mk m ks).Has (e.1 :: p) := (has_cons ws' he hpo.2).2 ⟨k.2, findK_of he h3 h4 hk hke, p, hp, wcmp_self hpo.1⟩
   have hxo : POk (e.1 :: p) := fun z hz => by
    rcases List.mem_cons.1 hz with rfl | hz
    ·exact he
    ·exact hpo.1 z hz
   obtain ⟨t, ht, -⟩ := (has_cons wt' he hpo.2).1 ((h _ hxo).1 h6)
   obtain ⟨k', hk', hke', -⟩ := findK_mem ht
   exact ⟨k', hk', hke'⟩
  have hk1 := key ws wt fs h
  have hk2 := key wt ws ft fun x hx => (h x hx).symm
  have ws' := ws
  have wt' := wt
  cases ws with
  | mk h1 h2 h3 h4 h5 =>
  cases wt with
  | mk i1 i2 i3 i4 i5 =>
  cases fs with
  | mk f1 f2 =>
  cases ft with
  | mk g1 g2 =>
  rw [eqS, Bool.and_eq_true, eqE_alike h1 i1, eqK_alike h3 i3]
  refine ⟨alike_of E.ord_ h1 i1 h2 i2 fun e he => ?_, ?_⟩
  ·have := h [e] (fun z hz => by rw [List.mem_singleton.1 hz]; exact he)
   rw [has_one ws', has_one wt'] at this
   exact this
  ·have hal := alike_of kcmp_ord h3 i3 h4 i4 fun e he => ⟨hk1 e he, hk2 e he⟩
   refine alikeK_of hal fun i a b ha hb => ?_
   have hab := alike_get hal i a b ha hb
   have ha' := List.mem_of_getElem? ha
   have hb' := List.mem_of_getElem? hb
   refine eqS_full (h5 a ha') (i5 b hb') (f2 a ha') (g2 b hb') fun x hx => ?_
   by_cases hx0 : x = []
   ·subst hx0
    exact ⟨fun h => absurd h (has_nil (h5 a ha')), fun h => absurd h (has_nil (i5 b hb'))⟩
   have hxo : POk (a.1 :: x) := fun z hz => by
    rcases List.mem_cons.1 hz with rfl | hz
    ·exact h3 a ha'
    ·exact hx z hz
   have h9 := h (a.1 :: x) hxo
   rw [has_cons ws' (h3 a ha') hx0, has_cons wt' (h3 a ha') hx0] at h9
   have e1 : findK a.1 (St.mk m ks).kids = some a.2 := findK_of (h3 a ha') h3 h4 ha' (E.cmp_self (h3 a ha'))
   have e2 : findK a.1 (St.mk m' ks').kids = some b.2 := findK_of (h3 a ha') i3 i4 hb' (E.ord_.eq_turn (h3 a ha') (i3 b hb') hab)
   rw [e1, e2] at h9
   simpa using h9
theorem eqS_sym : ∀ {n : Nat} {s t : St}, s.WF → t.WF → eqS n s t = true → eqS n t s = true
 | 0, _, _, _, _, _ => rfl
 | n + 1, .mk m ks, .mk m' ks', ws, wt, h => by
  cases ws with
  | mk h1 h2 h3 h4 h5 =>
  cases wt with
  | mk i1 i2 i3 i4 i5 =>
  rw [eqS, Bool.and_eq_true, eqE_alike h1 i1, eqK_alike h3 i3] at h
  rw [eqS, Bool.and_eq_true, eqE_alike i1 h1, eqK_alike i3 h3]
  refine ⟨alike_of E.ord_ i1 h1 i2 h2 fun e he => (h.1.has E.ord_ h1 i1 he).symm, alikeK_turn h3 i3 (fun a ha b hb hu => eqS_sym (h5 a ha) (i5 b hb) hu) h.2⟩
theorem eqS_iff {n : Nat} {s t : St} (hs : s.Ht n) (ht : t.Ht n) (ws : s.WF) (wt : t.WF) (fs : s.Full) (ft : t.Full) : eqS n s t = true ↔ ∀ x, POk x → (s.Has x ↔ t.Has x) :=
 ⟨fun h x hx => ⟨eqS_sound hs ht ws wt h hx, eqS_sound ht hs wt ws (eqS_sym ws wt h) hx⟩, eqS_full ws wt fs ft⟩

end Go.Proofs.YtbicoknghdgahaaGreat

namespace Go.Proofs.YtbicoknghdgahaaGreat

theorem apL_has {o : SOp} {n : Nat} {a b : List (List E)} (ha : ∀ p ∈ a, POk p) (hb : ∀ p ∈ b, POk p) (h1 : (setP a).Ht n) (h2 : (setP b).Ht n) {x : List E} (hx : POk x) (hx0 : x ≠ []) : HasC wcmp (apL o n a b) x ↔ o.says (HasC wcmp a x) (HasC wcmp b x) := by
 rw [show HasC wcmp (apL o n a b) x ↔ _ from has_ap (setP_wf ha) (setP_wf hb) (ht_paths h1) (ht_paths h2) hx, has_setP ha hx hx0, has_setP hb hx hx0]
 rfl
theorem setP_ht_of {l : List (List E)} {n : Nat} (h : ∀ p ∈ l, p.length ≤ n) (hn : 0 < n) : (setP l).Ht n := by
 obtain ⟨k, rfl⟩ : ∃ k, n = k + 1 := ⟨n - 1, by omega⟩
 exact setP_ht h
theorem apL_len {o : SOp} {n : Nat} {a b : List (List E)} (h1 : (setP a).Ht n) (h2 : (setP b).Ht n) : ∀ p ∈ apL o n a b, p.length ≤ n := ht_paths (ap_ht h1 h2)
theorem eqS_lists {n : Nat} {a b : List (List E)} (ha : ∀ p ∈ a, POk p) (hb : ∀ p ∈ b, POk p) (h1 : (setP a).Ht n) (h2 : (setP b).Ht n) : eqS n (setP a) (setP b) = true ↔ ∀ x, POk x → x ≠ [] → (HasC wcmp a x ↔ HasC wcmp b x) := by
 rw [eqS_iff h1 h2 (setP_wf ha) (setP_wf hb) (setP_full a) (setP_full b)]
 constructor
 ·intro h x hx hx0
  have := h x hx
  rwa [has_setP ha hx hx0, has_setP hb hx hx0] at this
 ·intro h x hx
  by_cases hx0 : x = []
  ·subst hx0
   exact ⟨fun h => absurd h (has_nil (setP_wf ha)), fun h => absurd h (has_nil (setP_wf hb))⟩
  ·rw [has_setP ha hx hx0, has_setP hb hx hx0]
   exact h x hx hx0
end Go.Proofs.YtbicoknghdgahaaGreat

namespace Go.Proofs.YtbicoknghdgahaaGreat
open Go.RowKit
attribute [local go_sem] run_store_float

theorem GivesP.of_paths {rs : List (List REl)} {w : World} {en : Ending} {w' : World} (h : GivesPaths rs w en w') : GivesP rs w en w' := by
 obtain ⟨A, c, e, h1, h2⟩ := h
 exact ⟨A, c, e, h1.mono fun b hb => hb.2, h2⟩

end Go.Proofs.YtbicoknghdgahaaGreat
