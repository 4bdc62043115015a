/- Parts: ElemCmp, SpecE, SpecV, ElemSp. -/
import Derived.Test.YtbicoknghdgahaaGreatKB08
import Derived.Test.YtbicoknghdgahaaGreatKD02
import Derived.Test.YtbicoknghdgahaaGreatKJ03
set_option linter.unusedVariables false
set_option linter.unusedSimpArgs false
namespace Go.Proofs.YtbicoknghdgahaaGreat
open Go.RowKit
attribute [local go_sem] run_store_float

set_option maxRecDepth 100000 in
theorem peEquals_01 (g1 g2 : Nat) (w : World) : Calls Tryz.prog 101 #[.agg #[.pointer (some ⟨g1, 0, none⟩), .pointer none, .pointer none, .pointer none], .agg #[.pointer none, .pointer (some ⟨g2, 0, none⟩), .pointer none, .pointer none]] w (EqPost false w) := by
 go_enter Tryz.func101, Tryz.ntmps101
 go_wp2
 go_ret
 exact ⟨rfl, below_two _ _ _⟩
set_option maxRecDepth 100000 in
theorem peEquals_02 (g1 g2 : Nat) (w : World) : Calls Tryz.prog 101 #[.agg #[.pointer (some ⟨g1, 0, none⟩), .pointer none, .pointer none, .pointer none], .agg #[.pointer none, .pointer none, .pointer (some ⟨g2, 0, none⟩), .pointer none]] w (EqPost false w) := by
 go_enter Tryz.func101, Tryz.ntmps101
 go_wp2
 go_ret
 exact ⟨rfl, below_two _ _ _⟩
set_option maxRecDepth 100000 in
theorem peEquals_03 (g1 g2 : Nat) (w : World) : Calls Tryz.prog 101 #[.agg #[.pointer (some ⟨g1, 0, none⟩), .pointer none, .pointer none, .pointer none], .agg #[.pointer none, .pointer none, .pointer none, .pointer (some ⟨g2, 0, none⟩)]] w (EqPost false w) := by
 go_enter Tryz.func101, Tryz.ntmps101
 go_wp2
 go_ret
 exact ⟨rfl, below_two _ _ _⟩
set_option maxRecDepth 100000 in
theorem peEquals_10 (g1 g2 : Nat) (w : World) : Calls Tryz.prog 101 #[.agg #[.pointer none, .pointer (some ⟨g1, 0, none⟩), .pointer none, .pointer none], .agg #[.pointer (some ⟨g2, 0, none⟩), .pointer none, .pointer none, .pointer none]] w (EqPost false w) := by
 go_enter Tryz.func101, Tryz.ntmps101
 go_wp2
 go_ret
 exact ⟨rfl, below_two _ _ _⟩
set_option maxRecDepth 100000 in
theorem peEquals_12 (g1 g2 : Nat) (w : World) : Calls Tryz.prog 101 #[.agg #[.pointer none, .pointer (some ⟨g1, 0, none⟩), .pointer none, .pointer none], .agg #[.pointer none, .pointer none, .pointer (some ⟨g2, 0, none⟩), .pointer none]] w (EqPost false w) := by
 go_enter Tryz.func101, Tryz.ntmps101
 go_wp2
 go_ret
 exact ⟨rfl, below_two _ _ _⟩
set_option maxRecDepth 100000 in
theorem peEquals_13 (g1 g2 : Nat) (w : World) : Calls Tryz.prog 101 #[.agg #[.pointer none, .pointer (some ⟨g1, 0, none⟩), .pointer none, .pointer none], .agg #[.pointer none, .pointer none, .pointer none, .pointer (some ⟨g2, 0, none⟩)]] w (EqPost false w) := by
 go_enter Tryz.func101, Tryz.ntmps101
 go_wp2
 go_ret
 exact ⟨rfl, below_two _ _ _⟩
set_option maxRecDepth 100000 in
theorem peEquals_20 (g1 g2 : Nat) (w : World) : Calls Tryz.prog 101 #[.agg #[.pointer none, .pointer none, .pointer (some ⟨g1, 0, none⟩), .pointer none], .agg #[.pointer (some ⟨g2, 0, none⟩), .pointer none, .pointer none, .pointer none]] w (EqPost false w) := by
 go_enter Tryz.func101, Tryz.ntmps101
 go_wp2
 go_ret
 exact ⟨rfl, below_two _ _ _⟩
set_option maxRecDepth 100000 in
theorem peEquals_21 (g1 g2 : Nat) (w : World) : Calls Tryz.prog 101 #[.agg #[.pointer none, .pointer none, .pointer (some ⟨g1, 0, none⟩), .pointer none], .agg #[.pointer none, .pointer (some ⟨g2, 0, none⟩), .pointer none, .pointer none]] w (EqPost false w) := by
 go_enter Tryz.func101, Tryz.ntmps101
 go_wp2
 go_ret
 exact ⟨rfl, below_two _ _ _⟩
set_option maxRecDepth 100000 in
theorem peEquals_23 (g1 g2 : Nat) (w : World) : Calls Tryz.prog 101 #[.agg #[.pointer none, .pointer none, .pointer (some ⟨g1, 0, none⟩), .pointer none], .agg #[.pointer none, .pointer none, .pointer none, .pointer (some ⟨g2, 0, none⟩)]] w (EqPost false w) := by
 go_enter Tryz.func101, Tryz.ntmps101
 go_wp2
 go_ret
 exact ⟨rfl, below_two _ _ _⟩
set_option maxRecDepth 100000 in
theorem peEquals_30 (g1 g2 : Nat) (w : World) : Calls Tryz.prog 101 #[.agg #[.pointer none, .pointer none, .pointer none, .pointer (some ⟨g1, 0, none⟩)], .agg #[.pointer (some ⟨g2, 0, none⟩), .pointer none, .pointer none, .pointer none]] w (EqPost false w) := by
 go_enter Tryz.func101, Tryz.ntmps101
 go_wp2
 go_ret
 exact ⟨rfl, below_two _ _ _⟩
set_option maxRecDepth 100000 in
theorem peEquals_31 (g1 g2 : Nat) (w : World) : Calls Tryz.prog 101 #[.agg #[.pointer none, .pointer none, .pointer none, .pointer (some ⟨g1, 0, none⟩)], .agg #[.pointer none, .pointer (some ⟨g2, 0, none⟩), .pointer none, .pointer none]] w (EqPost false w) := by
 go_enter Tryz.func101, Tryz.ntmps101
 go_wp2
 go_ret
 exact ⟨rfl, below_two _ _ _⟩
set_option maxRecDepth 100000 in
theorem peEquals_32 (g1 g2 : Nat) (w : World) : Calls Tryz.prog 101 #[.agg #[.pointer none, .pointer none, .pointer none, .pointer (some ⟨g1, 0, none⟩)], .agg #[.pointer none, .pointer none, .pointer (some ⟨g2, 0, none⟩), .pointer none]] w (EqPost false w) := by
 go_enter Tryz.func101, Tryz.ntmps101
 go_wp2
 go_ret
 exact ⟨rfl, below_two _ _ _⟩
set_option maxRecDepth 100000 in
set_option maxHeartbeats 1000000 in
theorem peEquals_00 (s1 s2 : ByteArray) (g1 g2 : Nat) (w : World) (l1 : g1 < w.heap.size) (l2 : g2 < w.heap.size) (b1 : Bk w g1 9 #[.string s1]) (b2 : Bk w g2 9 #[.string s2]) :
  Calls Tryz.prog 101 #[.agg #[.pointer (some ⟨g1, 0, none⟩), .pointer none, .pointer none, .pointer none], .agg #[.pointer (some ⟨g2, 0, none⟩), .pointer none, .pointer none, .pointer none]] w (EqPost (decide (s1 = s2)) w) := by
 by_cases he : s1 = s2
 ·subst he
  have hst : (s1.toList == s1.toList) = true := by simp
  rw [decide_eq_true rfl]
  go_enter Tryz.func101, Tryz.ntmps101
  go_wp2_with fail
  have st := PE2.made w (.pointer (some ⟨g1, 0, none⟩)) (.pointer none) (.pointer none) (.pointer none) (.pointer (some ⟨g2, 0, none⟩)) (.pointer none) (.pointer none) (.pointer none)
  have u0 := b1.cell 0
  have v0 := b2.cell 0
  simp at u0 v0
  rw [← (bcell st.below).1 _ _ l1] at u0
  rw [← (bcell st.below).1 _ _ l2] at v0
  generalize World.alloc (World.alloc w _) _ = W at st u0 v0 ⊢
  obtain ⟨p0, p1, p2, p3, q0, q1, q2, q3⟩ := st.cells
  have St := hide st.below
  clear b1 b2 st
  go_wp2_with fail
  go_quiet (fail)
  go_wp2
  go_ret
  exact ⟨rfl, below_drewN St.out _⟩
 ·have hst : (s1.toList == s2.toList) = false := by rw [str_eq]; simpa using he
  rw [decide_eq_false he]
  clear he
  go_enter Tryz.func101, Tryz.ntmps101
  go_wp2_with fail
  have st := PE2.made w (.pointer (some ⟨g1, 0, none⟩)) (.pointer none) (.pointer none) (.pointer none) (.pointer (some ⟨g2, 0, none⟩)) (.pointer none) (.pointer none) (.pointer none)
  have u0 := b1.cell 0
  have v0 := b2.cell 0
  simp at u0 v0
  rw [← (bcell st.below).1 _ _ l1] at u0
  rw [← (bcell st.below).1 _ _ l2] at v0
  generalize World.alloc (World.alloc w _) _ = W at st u0 v0 ⊢
  obtain ⟨p0, p1, p2, p3, q0, q1, q2, q3⟩ := st.cells
  have St := hide st.below
  clear b1 b2 st
  go_wp2_with fail
  go_quiet (fail)
  go_wp2
  go_ret
  exact ⟨rfl, below_drewN St.out _⟩
set_option maxRecDepth 100000 in
set_option maxHeartbeats 1000000 in
theorem peEquals_11 (L1 L2 : List (ByteArray × T)) (A1 A2 : Option Addr) (c1 c2 : Nat) (g1 g2 : Nat) (w : World) (h1 : FLAt (Old w) w L1 A1 c1) (h2 : FLAt (Old w) w L2 A2 c2) (l1 : g1 < w.heap.size) (l2 : g2 < w.heap.size) (b1 : Bk w g1 198 #[.slice A1 L1.length c1]) (b2 : Bk w g2 198 #[.slice A2 L2.length c2]) :
  Calls Tryz.prog 101 #[.agg #[.pointer none, .pointer (some ⟨g1, 0, none⟩), .pointer none, .pointer none], .agg #[.pointer none, .pointer (some ⟨g2, 0, none⟩), .pointer none, .pointer none]] w (EqPost (T.eqvM L1 L2) w) := by
 have hq := fun (W : World) (hb : Below w.heap.size w W) => flEquals_calls (h1.at_ hb) (h2.at_ hb)
 obtain ⟨d, hd⟩ : ∃ d, T.eqvM L1 L2 = d := ⟨_, rfl⟩
 rw [hd] at hq ⊢
 have Hq := hide hq
 clear hq hd h1 h2
 go_enter Tryz.func101, Tryz.ntmps101
 go_wp2_with fail
 have st := PE2.made w (.pointer none) (.pointer (some ⟨g1, 0, none⟩)) (.pointer none) (.pointer none) (.pointer none) (.pointer (some ⟨g2, 0, none⟩)) (.pointer none) (.pointer none)
 have u0 := b1.cell 0
 have v0 := b2.cell 0
 simp at u0 v0
 rw [← (bcell st.below).1 _ _ l1] at u0
 rw [← (bcell st.below).1 _ _ l2] at v0
 have hzs := st.below.size
 generalize World.alloc (World.alloc w _) _ = W at st u0 v0 hzs ⊢
 have hzz : PES w (.pointer none) (.pointer (some ⟨g1, 0, none⟩)) (.pointer none) (.pointer none) (.pointer none) (.pointer (some ⟨g2, 0, none⟩)) (.pointer none) (.pointer none) g1 g2 (.slice A1 L1.length c1) (.slice A2 L2.length c2) W := ⟨st, u0, v0⟩
 obtain ⟨p0, p1, p2, p3, q0, q1, q2, q3⟩ := st.cells
 have Hz := hide hzz
 clear b1 b2 st u0 v0 hzz
 go_wp2_with fail
 clear p0 p1 p2 p3 q0 q1 q2 q3
 have hS0 := Hz.out.call (below_drew (Below.refl W.heap.size W)) (by omega) (by omega)
 obtain ⟨S, hS⟩ : ∃ S, PES w (.pointer none) (.pointer (some ⟨g1, 0, none⟩)) (.pointer none) (.pointer none) (.pointer none) (.pointer (some ⟨g2, 0, none⟩)) (.pointer none) (.pointer none) g1 g2 (.slice A1 L1.length c1) (.slice A2 L2.length c2) = S := ⟨_, rfl⟩
 rw [hS] at hS0
 refine wp_region_head 9 S (by rfl) (by kernel_rfl) ?_
 iterate 8
  refine HT.nx (v := ?_) rfl (by kernel_rfl) (fun _ _ _ h => h) (Or.inl ⟨by rfl, ?_⟩) ‹_› ?_
  rotate_left
  ·intro W hSw; rw [← hS] at hSw; obtain ⟨hst, s8, s9⟩ := hSw; obtain ⟨s0, s1, s2, s3, s4, s5, s6, s7⟩ := hst.cells; clear hst; go_simp; with_reducible rfl
  simp only [Act.put, zzA, zzZ, zzS]
 refine HT.one 8 rfl (by kernel_rfl) (by rfl) (fun K hK => ?_)
 go_simp
 refine (Hq.out W.drew (below_drew Hz.out.st.below)).mono ?_
 rintro e w9 ⟨rfl, hb9⟩
 have hb9' : Below W.heap.size W w9 := below_drew' hb9
 go_simp
 refine hK.out _ _ (by rw [← hS]; exact Hz.out.call hb9' (by omega) (by omega)) ?_
 clear hK
 refine HT.done (by kernel_rfl) ?_
 simp only [List.drop_succ_cons, List.drop_zero]
 have Hb := hide (Hz.out.st.below.trans (hb9'.mono Hz.out.st.below.size))
 clear hS0 hS hb9 hb9'
 go_wp2
 go_ret
 exact ⟨rfl, Hb.out⟩
set_option maxRecDepth 100000 in
set_option maxHeartbeats 1000000 in
theorem peEquals_22 (t1 t2 : T) (q1 q2 : Addr) (g1 g2 : Nat) (w : World) (h1 : ValAt (Old w) w t1 (.iface 302 (.pointer (some q1)))) (h2 : ValAt (Old w) w t2 (.iface 302 (.pointer (some q2)))) (l1 : g1 < w.heap.size) (l2 : g2 < w.heap.size) (b1 : Bk w g1 112 #[.iface 302 (.pointer (some q1))]) (b2 : Bk w g2 112 #[.iface 302 (.pointer (some q2))]) :
  Calls Tryz.prog 101 #[.agg #[.pointer none, .pointer none, .pointer (some ⟨g1, 0, none⟩), .pointer none], .agg #[.pointer none, .pointer none, .pointer (some ⟨g2, 0, none⟩), .pointer none]] w (EqPost (T.eqv t1 t2) w) := by
 have hq := fun (W : World) (hb : Below w.heap.size w W) => equalsV_calls (h1.at_ hb) (h2.at_ hb)
 obtain ⟨d, hd⟩ : ∃ d, T.eqv t1 t2 = d := ⟨_, rfl⟩
 rw [hd] at hq ⊢
 have Hq := hide hq
 clear hq hd h1 h2
 go_enter Tryz.func101, Tryz.ntmps101
 go_wp2_with fail
 have st := PE2.made w (.pointer none) (.pointer none) (.pointer (some ⟨g1, 0, none⟩)) (.pointer none) (.pointer none) (.pointer none) (.pointer (some ⟨g2, 0, none⟩)) (.pointer none)
 have u0 := b1.cell 0
 have v0 := b2.cell 0
 simp at u0 v0
 rw [← (bcell st.below).1 _ _ l1] at u0
 rw [← (bcell st.below).1 _ _ l2] at v0
 have hzs := st.below.size
 generalize World.alloc (World.alloc w _) _ = W at st u0 v0 hzs ⊢
 have hzz : PES w (.pointer none) (.pointer none) (.pointer (some ⟨g1, 0, none⟩)) (.pointer none) (.pointer none) (.pointer none) (.pointer (some ⟨g2, 0, none⟩)) (.pointer none) g1 g2 (.iface 302 (.pointer (some q1))) (.iface 302 (.pointer (some q2))) W := ⟨st, u0, v0⟩
 obtain ⟨p0, p1, p2, p3, q0, q1, q2, q3⟩ := st.cells
 have Hz := hide hzz
 clear b1 b2 st u0 v0 hzz
 go_wp2_with fail
 clear p0 p1 p2 p3 q0 q1 q2 q3
 have hS0 := Hz.out.call (below_drew (Below.refl W.heap.size W)) (by omega) (by omega)
 obtain ⟨S, hS⟩ : ∃ S, PES w (.pointer none) (.pointer none) (.pointer (some ⟨g1, 0, none⟩)) (.pointer none) (.pointer none) (.pointer none) (.pointer (some ⟨g2, 0, none⟩)) (.pointer none) g1 g2 (.iface 302 (.pointer (some q1))) (.iface 302 (.pointer (some q2))) = S := ⟨_, rfl⟩
 rw [hS] at hS0
 refine wp_region_head 9 S (by rfl) (by kernel_rfl) ?_
 iterate 8
  refine HT.nx (v := ?_) rfl (by kernel_rfl) (fun _ _ _ h => h) (Or.inl ⟨by rfl, ?_⟩) ‹_› ?_
  rotate_left
  ·intro W hSw; rw [← hS] at hSw; obtain ⟨hst, s8, s9⟩ := hSw; obtain ⟨s0, s1, s2, s3, s4, s5, s6, s7⟩ := hst.cells; clear hst; go_simp; with_reducible rfl
  simp only [Act.put, zzA, zzZ, zzS]
 refine HT.one 8 rfl (by kernel_rfl) (by rfl) (fun K hK => ?_)
 go_simp
 refine (Hq.out W.drew (below_drew Hz.out.st.below)).mono ?_
 rintro e w9 ⟨rfl, hb9⟩
 have hb9' : Below W.heap.size W w9 := below_drew' hb9
 go_simp
 refine hK.out _ _ (by rw [← hS]; exact Hz.out.call hb9' (by omega) (by omega)) ?_
 clear hK
 refine HT.done (by kernel_rfl) ?_
 simp only [List.drop_succ_cons, List.drop_zero]
 have Hb := hide (Hz.out.st.below.trans (hb9'.mono Hz.out.st.below.size))
 clear hS0 hS hb9 hb9'
 go_wp2
 go_ret
 exact ⟨rfl, Hb.out⟩
set_option maxRecDepth 100000 in
set_option maxHeartbeats 1000000 in
theorem peEquals_33 (n1 n2 : Int) (g1 g2 : Nat) (w : World) (o1 : okInt n1) (o2 : okInt n2) (l1 : g1 < w.heap.size) (l2 : g2 < w.heap.size) (b1 : Bk w g1 3 #[.int .i64 n1]) (b2 : Bk w g2 3 #[.int .i64 n2]) :
  Calls Tryz.prog 101 #[.agg #[.pointer none, .pointer none, .pointer none, .pointer (some ⟨g1, 0, none⟩)], .agg #[.pointer none, .pointer none, .pointer none, .pointer (some ⟨g2, 0, none⟩)]] w (EqPost (n1 == n2) w) := by
 have x1 := o1.1
 have x2 := o1.2
 have x3 := o2.1
 have x4 := o2.2
 clear o1 o2
 by_cases he : n1 = n2
 ·subst he
  rw [show (n1 == n1) = true by simp]
  go_enter Tryz.func101, Tryz.ntmps101
  go_wp2_with fail
  have st := PE2.made w (.pointer none) (.pointer none) (.pointer none) (.pointer (some ⟨g1, 0, none⟩)) (.pointer none) (.pointer none) (.pointer none) (.pointer (some ⟨g2, 0, none⟩))
  have u0 := b1.cell 0
  have v0 := b2.cell 0
  simp at u0 v0
  rw [← (bcell st.below).1 _ _ l1] at u0
  rw [← (bcell st.below).1 _ _ l2] at v0
  generalize World.alloc (World.alloc w _) _ = W at st u0 v0 ⊢
  obtain ⟨p0, p1, p2, p3, q0, q1, q2, q3⟩ := st.cells
  have St := hide st.below
  clear b1 b2 st
  go_wp2_with fail
  go_quiet (fail)
  go_wp2
  go_ret
  exact ⟨rfl, below_drewN St.out _⟩
 ·have he' : (n1 == n2) = false := by simpa using he
  rw [he']
  go_enter Tryz.func101, Tryz.ntmps101
  go_wp2_with fail
  have st := PE2.made w (.pointer none) (.pointer none) (.pointer none) (.pointer (some ⟨g1, 0, none⟩)) (.pointer none) (.pointer none) (.pointer none) (.pointer (some ⟨g2, 0, none⟩))
  have u0 := b1.cell 0
  have v0 := b2.cell 0
  simp at u0 v0
  rw [← (bcell st.below).1 _ _ l1] at u0
  rw [← (bcell st.below).1 _ _ l2] at v0
  generalize World.alloc (World.alloc w _) _ = W at st u0 v0 ⊢
  obtain ⟨p0, p1, p2, p3, q0, q1, q2, q3⟩ := st.cells
  have St := hide st.below
  clear b1 b2 st
  go_wp2_with fail
  go_quiet (fail)
  go_wp2
  go_ret
  exact ⟨rfl, below_drewN St.out _⟩

theorem peEquals_calls {e1 e2 : E} {cs1 cs2 : List Value} {w : World} (h1 : PEAt (Old w) w e1 cs1) (h2 : PEAt (Old w) w e2 cs2) : Calls Tryz.prog 101 #[.agg cs1.toArray, .agg cs2.toArray] w (EqPost (E.eqv e1 e2) w) := by
 cases h1
 case field =>
  rename_i s1 g1 xs xF xB
  cases h2
  case field =>
   rename_i s2 g2 ys yF yB
   exact peEquals_00 _ _ _ _ w xF yF xB yB
  case key => exact peEquals_01 _ _ w
  case val => exact peEquals_02 _ _ w
  case idx => exact peEquals_03 _ _ w
 case key =>
  rename_i L1 g1 A1 c1 xF xB xL
  cases h2
  case field => exact peEquals_10 _ _ w
  case key =>
   rename_i L2 g2 A2 c2 yF yB yL
   exact peEquals_11 _ _ _ _ _ _ _ _ w xL yL xF yF xB yB
  case val => exact peEquals_12 _ _ w
  case idx => exact peEquals_13 _ _ w
 case val =>
  rename_i t1 g1 q1 xF xB xV
  cases h2
  case field => exact peEquals_20 _ _ w
  case key => exact peEquals_21 _ _ w
  case val =>
   rename_i t2 g2 q2 yF yB yV
   exact peEquals_22 _ _ _ _ _ _ w xV yV xF yF xB yB
  case idx => exact peEquals_23 _ _ w
 case idx =>
  rename_i n1 g1 xo xF xB
  cases h2
  case field => exact peEquals_30 _ _ w
  case key => exact peEquals_31 _ _ w
  case val => exact peEquals_32 _ _ w
  case idx =>
   rename_i n2 g2 yo yF yB
   exact peEquals_33 _ _ _ _ w xo yo xF yF xB yB

end Go.Proofs.YtbicoknghdgahaaGreat

namespace Go.Proofs.YtbicoknghdgahaaGreat
open Go.RowKit
attribute [local go_sem] run_store_float

theorem TAt.kn {w : World} {t : T} {a0 a1 a2 a3 a4 a5 : Value} (h : TAt w t [a0, a1, a2, a3, a4, a5]) : a0 = .int .i64 t.kn := by
 unfold TAt at h
 cases t <;> (unfold T.toRV at h; cases h; rfl)

end Go.Proofs.YtbicoknghdgahaaGreat

namespace Go.Proofs.YtbicoknghdgahaaGreat
open Go.RowKit


set_option maxRecDepth 100000 in
set_option maxHeartbeats 1000000 in
theorem specCompare_calls (r1 r2 : RV) (w : World) (cs1 cs2 : List Value) (h1 : RVAt (Old w) w r1 cs1) (h2 : RVAt (Old w) w r2 cs2) :
  Calls Tryz.prog 217 #[.agg cs1.toArray, .agg cs2.toArray] w (CmpPost (T.cmp r1.tree r2.tree) w) := by
 have H1 := hide h1
 have H2 := hide h2
 obtain ⟨c, hcv⟩ : ∃ c, T.cmp r1.tree r2.tree = c := ⟨_, rfl⟩
 rw [hcv]
 have Hc := hide hcv
 clear hcv
 obtain ⟨a0, a1, a2, a3, a4, a5, rfl⟩ := h1.six
 obtain ⟨b0, b1, b2, b3, b4, b5, rfl⟩ := h2.six
 clear h1 h2
 go_enter Tryz.func217, Tryz.ntmps217
 go_wp2_with fail
 generalize hW : World.alloc _ _ = W
 have hb : Below w.heap.size w W := by rw [← hW]; exact below_two _ _ _
 have hsz : w.heap.size + 1 < W.heap.size := by rw [← hW]; simp
 have hx : Bx2 w.heap.size (w.heap.size + 1) a0 a1 a2 a3 a4 a5 b0 b1 b2 b3 b4 b5 W := by rw [← hW]; exact Bx2.made _ _ _ _ _ _ _ _ _ _ _ _ _ _ _
 clear hW
 have hS0 : Bx2 w.heap.size (w.heap.size + 1) a0 a1 a2 a3 a4 a5 b0 b1 b2 b3 b4 b5 W.drew := hx.drew
 generalize hS : Bx2 w.heap.size (w.heap.size + 1) a0 a1 a2 a3 a4 a5 b0 b1 b2 b3 b4 b5 = S at hS0
 have Hk := hide (And.intro hb hx)
 clear hx hb
 refine wp_region_head 4 S (by rfl) (by kernel_rfl) ?_
 refine HT.take 0 (v := ?_) rfl (by kernel_rfl) (fun _ _ _ h => h) (Or.inl ⟨by rfl, ?_⟩) ‹_› ?_
 rotate_left
 ·intro W hSw; rw [← hS] at hSw; obtain ⟨⟨s0, s1, s2, s3, s4, s5⟩, ⟨t0, t1, t2, t3, t4, t5⟩⟩ := hSw; go_simp; with_reducible rfl
 simp only [Act.put, zzA, zzZ, zzS]
 refine HT.take 2 (v := ?_) rfl (by kernel_rfl) (fun _ _ _ h => h) (Or.inl ⟨by rfl, ?_⟩) ‹_› ?_
 rotate_left
 ·intro W hSw; rw [← hS] at hSw; obtain ⟨⟨s0, s1, s2, s3, s4, s5⟩, ⟨t0, t1, t2, t3, t4, t5⟩⟩ := hSw; go_simp; with_reducible rfl
 simp only [Act.put, zzA, zzZ, zzS]
 refine HT.one 1 rfl (by kernel_rfl) (by rfl) (fun K hK => ?_)
 go_simp
 refine (clean_calls r1 W.drew _ (H1.out.at_ (below_drew Hk.out.1))).mono ?_
 rintro e w1 ⟨v1, rfl, hv1, hb1⟩
 obtain ⟨x0, x1, x2, x3, x4, x5, rfl⟩ := hv1.six
 have hbW : Below W.heap.size W w1 := below_drew' hb1
 go_simp
 refine hK.out _ _ (by rw [← hS]; exact Hk.out.2.below hbW (by omega) (by omega)) ?_
 clear hK
 refine HT.one 3 rfl (by kernel_rfl) (by rfl) (fun K hK => ?_)
 go_simp
 refine (clean_calls r2 w1 _ (H2.out.at_ (Hk.out.1.trans (hbW.mono Hk.out.1.size)))).mono ?_
 rintro e w2 ⟨v2, rfl, hv2, hb2⟩
 obtain ⟨y0, y1, y2, y3, y4, y5, rfl⟩ := hv2.six
 have hbW2 : Below W.heap.size W w2 := hbW.trans (hb2.mono hbW.size)
 go_simp
 refine hK.out _ _ (by rw [← hS]; exact Hk.out.2.below hbW2 (by omega) (by omega)) ?_
 refine HT.done (by kernel_rfl) ?_
 simp only [List.drop_succ_cons, List.drop_zero]
 have hfin := specCmp_all r1.tree r2.tree w2 _ _ (RVAt.at_ (hv1.mono fun b hb => (hb.resolve_left id).2) hb2) (hv2.mono fun b hb => (hb.resolve_left id).2)
 rw [Hc.out] at hfin
 have Hfin := hide hfin
 have Hb2 := hide (Hk.out.1.trans (hbW2.mono Hk.out.1.size))
 clear hK hS0 hS hv1 hv2 hb1 hb2 hbW hbW2 hfin
 go_wp2_with fail
 refine Hfin.out.mono ?_
 rintro e w3 ⟨rfl, hb3⟩
 have Hb3 := hide (Hb2.out.trans (hb3.mono Hb2.out.size))
 clear hb3
 go_wp2
 go_ret
 exact ⟨rfl, Hb3.out⟩

end Go.Proofs.YtbicoknghdgahaaGreat

namespace Go.Proofs.YtbicoknghdgahaaGreat
open Go.RowKit
attribute [local go_sem] run_store_float

theorem elem_ord (r : REl) : r.elem.ord = if r.kind = 1 then 1 else if r.kind = 2 then 2 else if r.kind = 3 then 3 else 0 := by
 unfold REl.elem
 repeat' split
 all_goals rfl

set_option maxRecDepth 100000 in
theorem elemRank_calls (r : REl) (w : World) (cs : List Value) (h : ElemAt (Old w) w r cs) : Calls Tryz.prog 117 #[.agg cs.toArray] w (CmpPost r.elem.ord w) := by
 rw [elem_ord]
 cases h with
 | @mk kind n s keys l v KA LA kc lc v0 v1 v2 v3 vA vB vn vc vm vd h1 h2 h3 h4 h5 =>
 simp only
 clear h2 h3 h4 h5
 by_cases k1 : kind = 1
 ·subst k1
  go_enter Tryz.func117, Tryz.ntmps117
  go_wp2
  go_ret
  exact ⟨rfl, (Below.refl _ _).alloc (Nat.le_refl _) _⟩
 have e1 : (kind == 1) = false := by simpa using k1
 rw [if_neg k1]
 by_cases k2 : kind = 2
 ·subst k2
  go_enter Tryz.func117, Tryz.ntmps117
  go_wp2
  go_ret
  exact ⟨rfl, (Below.refl _ _).alloc (Nat.le_refl _) _⟩
 have e2 : (kind == 2) = false := by simpa using k2
 rw [if_neg k2]
 by_cases k3 : kind = 3
 ·subst k3
  go_enter Tryz.func117, Tryz.ntmps117
  go_wp2
  go_ret
  exact ⟨rfl, (Below.refl _ _).alloc (Nat.le_refl _) _⟩
 have e3 : (kind == 3) = false := by simpa using k3
 rw [if_neg k3]
 go_enter Tryz.func117, Tryz.ntmps117
 go_wp2
 go_ret
 exact ⟨rfl, (Below.refl _ _).alloc (Nat.le_refl _) _⟩

def REl.fl (r : REl) : List (ByteArray × T) := r.keys.zip (r.l.map RV.tree)
theorem fl_length (r : REl) : r.fl.length = min r.keys.length r.l.length := by simp [REl.fl]
theorem fl_at (r : REl) {k : Nat} (h1 : k < r.keys.length) (h2 : k < r.l.length) : r.fl[k]? = some (r.keys[k], (r.l[k]).tree) := by
 have hl : k < r.fl.length := by rw [fl_length]; omega
 rw [List.getElem?_eq_getElem hl]
 simp [REl.fl]

def CKInv (w : World) (a b : Array Value) (z1 z2 : List (ByteArray × T)) (s : Value) (W : World) : Prop := ∃ k : Nat, s = .int .i64 (k : Int) ∧ k ≤ z1.length ∧ k ≤ z2.length ∧ T.cmpM z1 z2 = T.cmpM (z1.drop k) (z2.drop k) ∧ BB w 29 a b W
theorem cmpM_round {z1 z2 : List (ByteArray × T)} {k : Nat} {x y : ByteArray} {s t : T} (h : T.cmpM z1 z2 = T.cmpM (z1.drop k) (z2.drop k)) (h1 : z1[k]? = some (x, s)) (h2 : z2[k]? = some (y, t)) : T.cmpM z1 z2 = if cmpS x y = 0 then (if T.cmp s t = 0 then T.cmpM (z1.drop (k + 1)) (z2.drop (k + 1)) else T.cmp s t) else cmpS x y := by
 obtain ⟨l1, e1⟩ := List.getElem?_eq_some_iff.1 h1
 obtain ⟨l2, e2⟩ := List.getElem?_eq_some_iff.1 h2
 rw [h, List.drop_eq_getElem_cons l1, List.drop_eq_getElem_cons l2, e1, e2, T.cmpM]
theorem cmpM_endk {z1 z2 : List (ByteArray × T)} {k : Nat} (h : T.cmpM z1 z2 = T.cmpM (z1.drop k) (z2.drop k)) (h1 : k ≤ z1.length) (h2 : k ≤ z2.length) (h3 : k = z1.length ∨ k = z2.length) : T.cmpM z1 z2 = cmpI (z1.length : Int) (z2.length : Int) := by
 rw [h]
 unfold cmpI
 rcases h3 with rfl | rfl
 ·rw [List.drop_length]
  by_cases h4 : z1.length < z2.length
  ·rw [List.drop_eq_getElem_cons h4, T.cmpM, if_pos (by omega)]
  ·rw [List.drop_eq_nil_of_le (by omega), T.cmpM, if_neg (by omega), if_neg (by omega)]
 ·rw [List.drop_length]
  by_cases h4 : z2.length < z1.length
  ·rw [List.drop_eq_getElem_cons h4, T.cmpM, if_neg (by omega), if_pos (by omega)]
  ·rw [List.drop_eq_nil_of_le (by omega), T.cmpM, if_neg (by omega), if_neg (by omega)]

set_option maxRecDepth 100000 in
set_option maxHeartbeats 4000000 in
theorem compareKeys_calls (r1 r2 : REl) (w : World) (cs1 cs2 : List Value) (h1 : ElemAt (Old w) w r1 cs1) (h2 : ElemAt (Old w) w r2 cs2) : Calls Tryz.prog 216 #[.agg cs1.toArray, .agg cs2.toArray] w (CmpPost (T.cmpM r1.fl r2.fl) w) := by
 obtain ⟨a0, a1, a2, a3, a4, a5, a6, a7, a8, a9, aa, ab, ac, ad, ae, af, ag, ah, ai, rfl⟩ := h1.form
 obtain ⟨b0, b1, b2, b3, b4, b5, b6, b7, b8, b9, ba, bb, bc, bd, be, bf, bg, bh, bi, rfl⟩ := h2.form
 obtain ⟨hk1, hl1, xs1, hL1, hX1⟩ : ∃ (hk : a3 = r1.keys.length) (hl : a6 = r1.l.length) (xs : List Value), Row (Old w) w 6 a5 r1.l.length xs ∧ ∀ (i : Nat) r, r1.l[i]? = some r → RVAt (Old w) w r ((xs.drop (i * 6)).take 6) := by
  cases h1 with
  | mk _ _ h3 => cases h3 with | mk _ _ _ _ _ _ _ _ _ _ _ _ hL hX => exact ⟨rfl, rfl, _, hL, hX⟩
 obtain ⟨hk2, hl2, xs2, hL2, hX2⟩ : ∃ (hk : b3 = r2.keys.length) (hl : b6 = r2.l.length) (xs : List Value), Row (Old w) w 6 b5 r2.l.length xs ∧ ∀ (i : Nat) r, r2.l[i]? = some r → RVAt (Old w) w r ((xs.drop (i * 6)).take 6) := by
  cases h2 with
  | mk _ _ h3 => cases h3 with | mk _ _ _ _ _ _ _ _ _ _ _ _ hL hX => exact ⟨rfl, rfl, _, hL, hX⟩
 obtain ⟨hK1, hn1, hs1⟩ : Row (Old w) w 1 a2 r1.keys.length (r1.keys.map Value.string) ∧ (r1.keys.length * 16 ≤ R47 ∧ r1.l.length * 88 ≤ R47) ∧ ∀ k ∈ r1.keys, k.size ≤ R47 := by
  cases h1 with
  | mk _ _ h3 => cases h3 with | mk _ _ _ _ q1 q2 q3 _ _ _ _ hK _ _ => exact ⟨hK, ⟨q2, q3⟩, q1⟩
 obtain ⟨hK2, hn2, hs2⟩ : Row (Old w) w 1 b2 r2.keys.length (r2.keys.map Value.string) ∧ (r2.keys.length * 16 ≤ R47 ∧ r2.l.length * 88 ≤ R47) ∧ ∀ k ∈ r2.keys, k.size ≤ R47 := by
  cases h2 with
  | mk _ _ h3 => cases h3 with | mk _ _ _ _ q1 q2 q3 _ _ _ _ hK _ _ => exact ⟨hK, ⟨q2, q3⟩, q1⟩
 subst hk1 hl1 hk2 hl2
 have n1 : r1.keys.length ≤ 8796093022208 := by have := hn1.1; unfold R47 at this; omega
 have n2 : r1.l.length ≤ 8796093022208 := by have := hn1.2; unfold R47 at this; omega
 have n3 : r2.keys.length ≤ 8796093022208 := by have := hn2.1; unfold R47 at this; omega
 have n4 : r2.l.length ≤ 8796093022208 := by have := hn2.2; unfold R47 at this; omega
 have hf1 := fl_length r1
 have hf2 := fl_length r2
 have H1 := hide (And.intro hK1 (And.intro hs1 (And.intro hL1 hX1)))
 have H2 := hide (And.intro hK2 (And.intro hs2 (And.intro hL2 hX2)))
 have F1 := hide fun (k : Nat) (x : ByteArray) (r : RV) (h1 : r1.keys[k]? = some x) (h2 : r1.l[k]? = some r) => (show r1.fl[k]? = some (x, r.tree) from by
  obtain ⟨l1, e1⟩ := List.getElem?_eq_some_iff.1 h1
  obtain ⟨l2, e2⟩ := List.getElem?_eq_some_iff.1 h2
  rw [fl_at r1 l1 l2, e1, e2])
 have F2 := hide fun (k : Nat) (x : ByteArray) (r : RV) (h1 : r2.keys[k]? = some x) (h2 : r2.l[k]? = some r) => (show r2.fl[k]? = some (x, r.tree) from by
  obtain ⟨l1, e1⟩ := List.getElem?_eq_some_iff.1 h1
  obtain ⟨l2, e2⟩ := List.getElem?_eq_some_iff.1 h2
  rw [fl_at r2 l1 l2, e1, e2])
 generalize r1.fl = z1 at *
 generalize r2.fl = z2 at *
 generalize r1.keys = K1 at *
 generalize r1.l = L1 at *
 generalize r2.keys = K2 at *
 generalize r2.l = L2 at *
 obtain ⟨c, hcv⟩ : ∃ c, T.cmpM z1 z2 = c := ⟨_, rfl⟩
 rw [hcv]
 have Hc := hide hcv
 have Hf := hide (And.intro hf1 hf2)
 obtain ⟨kn1, hkn1⟩ : ∃ n, K1.length = n := ⟨_, rfl⟩
 obtain ⟨ln1, hln1⟩ : ∃ n, L1.length = n := ⟨_, rfl⟩
 obtain ⟨kn2, hkn2⟩ : ∃ n, K2.length = n := ⟨_, rfl⟩
 obtain ⟨ln2, hln2⟩ : ∃ n, L2.length = n := ⟨_, rfl⟩
 rw [hkn1] at n1
 rw [hln1] at n2
 rw [hkn2] at n3
 rw [hln2] at n4
 rw [hkn1, hln1, hkn2, hln2]
 have Hn := hide (And.intro hkn1 (And.intro hln1 (And.intro hkn2 hln2)))
 clear h1 h2 hL1 hX1 hL2 hX2 hK1 hn1 hs1 hK2 hn2 hs2 hcv hf1 hf2 hkn1 hln1 hkn2 hln2
 go_enter Tryz.func216, Tryz.ntmps216
 go_upto_region 1 with fail
 have st := BB.made w 29 #[.int .i64 a0, .string a1, .slice a2 kn1 a4, .slice a5 ln1 a7, .int .i64 a8, .int .i64 a9, .float .f64 aa, .string ab, .slice ac ad ae, .slice af ag ah, .int .i64 ai] #[.int .i64 b0, .string b1, .slice b2 kn2 b4, .slice b5 ln2 b7, .int .i64 b8, .int .i64 b9, .float .f64 ba, .string bb, .slice bc bd be, .slice bf bg bh, .int .i64 bi]
 generalize World.alloc (World.alloc w _) _ = W at st ⊢
 have H0 := hide st
 clear st
 go_wp2_with fail
 go_loopw [5] (fun s W => CKInv w #[.int .i64 a0, .string a1, .slice a2 kn1 a4, .slice a5 ln1 a7, .int .i64 a8, .int .i64 a9, .float .f64 aa, .string ab, .slice ac ad ae, .slice af ag ah, .int .i64 ai] #[.int .i64 b0, .string b1, .slice b2 kn2 b4, .slice b5 ln2 b7, .int .i64 b8, .int .i64 b9, .float .f64 ba, .string bb, .slice bc bd be, .slice bf bg bh, .int .i64 bi] z1 z2 s W) (fun s _ => kn1 - (intOf s).toNat)
 case atStart => exact ⟨0, rfl, Nat.zero_le _, Nat.zero_le _, by simp, H0.out⟩
 case round =>
  obtain ⟨k, rfl, hk1, hk2, heq, st⟩ := hrel
  rw [Hf.out.1, Hn.out.1, Hn.out.2.1] at hk1
  rw [Hf.out.2, Hn.out.2.2.1, Hn.out.2.2.2] at hk2
  have hki0 : (0 : Int) ≤ (k : Int) := Int.natCast_nonneg _
  have g1 : k ≤ kn1 := by omega
  have g2 : k ≤ ln1 := by omega
  have g3 : k ≤ kn2 := by omega
  have g4 : k ≤ ln2 := by omega
  obtain ⟨p0, p1, p2, p3, p4, p5, p6, p7, p8, p9, p10⟩ := st.a.cells11
  obtain ⟨q0, q1, q2, q3, q4, q5, q6, q7, q8, q9, q10⟩ := st.b.cells11
  have hgl0 := st.a.lt
  have hgl1 := st.b.lt
  by_cases hall : k < kn1 ∧ k < ln1 ∧ k < kn2 ∧ k < ln2
  ·obtain ⟨i1, i2, i3, i4⟩ := hall
   have j1 : (k : Int) < (kn1 : Int) := by omega
   have j2 : (k : Int) < (ln1 : Int) := by omega
   have j3 : (k : Int) < (kn2 : Int) := by omega
   have j4 : (k : Int) < (ln2 : Int) := by omega
   obtain ⟨x, hx⟩ : ∃ x, K1[k]? = some x := ⟨_, List.getElem?_eq_getElem (by rw [Hn.out.1]; exact i1)⟩
   obtain ⟨r, hr⟩ : ∃ r, L1[k]? = some r := ⟨_, List.getElem?_eq_getElem (by rw [Hn.out.2.1]; exact i2)⟩
   obtain ⟨y, hy⟩ : ∃ x, K2[k]? = some x := ⟨_, List.getElem?_eq_getElem (by rw [Hn.out.2.2.1]; exact i3)⟩
   obtain ⟨t, ht⟩ : ∃ r, L2[k]? = some r := ⟨_, List.getElem?_eq_getElem (by rw [Hn.out.2.2.2]; exact i4)⟩
   have hrd := cmpM_round heq (F1.out k x r hx hr) (F2.out k y t hy ht)
   rw [Hc.out] at hrd
   have hxs := H1.out.2.1 x (List.mem_of_getElem? hx)
   have hys := H2.out.2.1 y (List.mem_of_getElem? hy)
   obtain ⟨xb, xo, exa, hFx, hcx⟩ := row1_at (u := .string x) H1.out.1 (k := k) (by rw [Hn.out.1]; exact i1) (by rw [List.getElem?_map, hx]; rfl)
   obtain ⟨yb, yo, eya, hFy, hcy⟩ := row1_at (u := .string y) H2.out.1 (k := k) (by rw [Hn.out.2.2.1]; exact i3) (by rw [List.getElem?_map, hy]; rfl)
   have hvr := H1.out.2.2.2 k r hr
   have hvt := H2.out.2.2.2 k t ht
   generalize hcs1 : (xs1.drop (k * 6)).take 6 = vs1 at hvr
   generalize hcs2 : (xs2.drop (k * 6)).take 6 = vs2 at hvt
   obtain ⟨u0, u1, u2, u3, u4, u5, u6, u7, u8, u9, rfl⟩ := hvr.form
   obtain ⟨t0, t1, t2, t3, t4, t5, t6, t7, t8, t9, rfl⟩ := hvt.form
   obtain ⟨rb, ro, era, hFr, c0, c1, c2, c3, c4, c5⟩ := row6_at H1.out.2.2.1 (k := k) (by rw [Hn.out.2.1]; exact i2) hcs1
   obtain ⟨tb, tof, eta, hFt, d0, d1, d2, d3, d4, d5⟩ := row6_at H2.out.2.2.1 (k := k) (by rw [Hn.out.2.2.2]; exact i4) hcs2
   subst exa eya era eta
   have HR := hide (And.intro hcx (And.intro hcy (And.intro (And.intro c0 (And.intro c1 (And.intro c2 (And.intro c3 (And.intro c4 c5))))) (And.intro d0 (And.intro d1 (And.intro d2 (And.intro d3 (And.intro d4 d5))))))))
   have hl1 : xb < w.heap.size := hFx
   have hl2 : yb < w.heap.size := hFy
   have hl3 : rb < w.heap.size := hFr
   have hl4 : tb < w.heap.size := hFt
   have ec := (bcell st.below).1
   have m1 := (ec _ _ hl1).trans hcx
   have m2 := (ec _ _ hl2).trans hcy
   have HS := hide fun (W : World) => specStrings_calls x y hxs hys W
   have HV := hide fun (W : World) (hb : Below w.heap.size w W) => specCompare_calls r t W _ _ (hvr.at_ hb) (hvt.at_ hb)
   obtain ⟨sx, hsx⟩ : ∃ v, cmpS x y = v := ⟨_, rfl⟩
   obtain ⟨vx, hvx⟩ : ∃ v, T.cmp r.tree t.tree = v := ⟨_, rfl⟩
   rw [hsx] at HS hrd
   rw [hvx] at HV hrd
   have Hrd := hide hrd
   have Hst := hide st
   clear hrd heq hx hr hy ht hcs1 hcs2 hvr hvt hsx hvx hcx hcy c0 c1 c2 c3 c4 c5 d0 d1 d2 d3 d4 d5 ec st hxs hys hFx hFy hFr hFt
   go_wp2_with fail
   go_still_tail 10, (by kernel_rfl)
   change wpList _ _ _ _ _ wr.drew
   go_wp2_with fail
   refine (HS.out wr.drew).mono ?_
   rintro e w1 ⟨rfl, hb1⟩
   have st1 := Hst.out.call (below_drew' hb1)
   clear hb1 m1 m2 p0 p1 p2 p3 p4 p5 p6 p7 p8 p9 p10 q0 q1 q2 q3 q4 q5 q6 q7 q8 q9 q10 Hst HS
   by_cases hs0 : sx = 0
   ·obtain ⟨p0, p1, p2, p3, p4, p5, p6, p7, p8, p9, p10⟩ := st1.a.cells11
    obtain ⟨q0, q1, q2, q3, q4, q5, q6, q7, q8, q9, q10⟩ := st1.b.cells11
    have ec := (bcell st1.below).1
    have c0 := (ec _ _ hl3).trans HR.out.2.2.1.1
    have c1 := (ec _ _ hl3).trans HR.out.2.2.1.2.1
    have c2 := (ec _ _ hl3).trans HR.out.2.2.1.2.2.1
    have c3 := (ec _ _ hl3).trans HR.out.2.2.1.2.2.2.1
    have c4 := (ec _ _ hl3).trans HR.out.2.2.1.2.2.2.2.1
    have c5 := (ec _ _ hl3).trans HR.out.2.2.1.2.2.2.2.2
    have d0 := (ec _ _ hl4).trans HR.out.2.2.2.1
    have d1 := (ec _ _ hl4).trans HR.out.2.2.2.2.1
    have d2 := (ec _ _ hl4).trans HR.out.2.2.2.2.2.1
    have d3 := (ec _ _ hl4).trans HR.out.2.2.2.2.2.2.1
    have d4 := (ec _ _ hl4).trans HR.out.2.2.2.2.2.2.2.1
    have d5 := (ec _ _ hl4).trans HR.out.2.2.2.2.2.2.2.2
    have H1s := hide st1
    clear ec st1
    subst hs0
    go_wp2_with fail
    go_still_tail 10, (by kernel_rfl)
    change wpList _ _ _ _ _ w1.drew
    go_wp2_with fail
    refine (HV.out w1.drew (below_drew H1s.out.below)).mono ?_
    rintro e w2 ⟨rfl, hb2⟩
    have st2 := H1s.out.call (below_drew' hb2)
    clear hb2 p0 p1 p2 p3 p4 p5 p6 p7 p8 p9 p10 q0 q1 q2 q3 q4 q5 q6 q7 q8 q9 q10 c0 c1 c2 c3 c4 c5 d0 d1 d2 d3 d4 d5 H1s HV
    have H2s := hide st2
    clear st2
    by_cases hv0 : vx = 0
    ·have hs := Hrd.out
     first | rw [if_pos rfl, if_pos hv0] at hs | rw [if_pos hv0] at hs
     have Hs := hide (Hc.out.trans hs)
     clear hs Hrd
     subst hv0
     go_wp2_with fail
     refine ⟨⟨k + 1, by go_num, by rw [Hf.out.1, Hn.out.1, Hn.out.2.1]; omega, by rw [Hf.out.2, Hn.out.2.2.1, Hn.out.2.2.2]; omega, Hs.out, H2s.out⟩, by simp [intOf]; omega⟩
    ·have hs := Hrd.out
     first | rw [if_pos rfl, if_neg hv0] at hs | rw [if_neg hv0] at hs
     subst hs
     clear Hrd
     go_wp2
     go_ret
     exact ⟨rfl, H2s.out.below⟩
   ·have hs := Hrd.out
    rw [if_neg hs0] at hs
    have H1s := hide st1
    clear st1 Hrd
    subst hs
    go_wp2
    go_ret
    exact ⟨rfl, H1s.out.below⟩
  ·have hend : k = z1.length ∨ k = z2.length := by rw [Hf.out.1, Hf.out.2, Hn.out.1, Hn.out.2.1, Hn.out.2.2.1, Hn.out.2.2.2]; omega
   have hce := cmpM_endk heq (by rw [Hf.out.1, Hn.out.1, Hn.out.2.1]; exact hk1) (by rw [Hf.out.2, Hn.out.2.2.1, Hn.out.2.2.2]; exact hk2) hend
   rw [Hc.out, Hf.out.1, Hf.out.2, Hn.out.1, Hn.out.2.1, Hn.out.2.2.1, Hn.out.2.2.2] at hce
   have Hst := hide st
   have hns : (k < kn1 → k < ln1 → k < kn2 → ¬ k < ln2) := fun a b c d => hall ⟨a, b, c, d⟩
   have HC := hide fun (W : World) (a b : Int) (ha : a = ((min kn1 ln1 : Nat) : Int)) (hb : b = ((min kn2 ln2 : Nat) : Int)) => (show Calls Tryz.prog 176 #[.int .i64 a, .int .i64 b] W fun e w' => e = .returned (.int .i64 c) ∧ W = w' from by rw [hce, ha, hb]; exact specInts_calls _ _ W)
   clear hce heq hend hall st
   by_cases i1 : k < kn1
   ·have j1 : (k : Int) < (kn1 : Int) := by omega
    by_cases i2 : k < ln1
    ·have j2 : (k : Int) < (ln1 : Int) := by omega
     by_cases i3 : k < kn2
     ·have j3 : (k : Int) < (kn2 : Int) := by omega
      have j4 : ¬ (k : Int) < (ln2 : Int) := by have := hns i1 i2 i3; omega
      clear hns
      go_wp2_with fail
      all_goals
       refine (HC.out _ _ _ (by first | omega | (split <;> omega)) (by first | omega | (split <;> omega))).mono ?_
       rintro e w2 ⟨rfl, rfl⟩
       go_wp2
       all_goals
        go_ret
        exact ⟨rfl, Hst.out.below⟩
     ·have j3 : ¬ (k : Int) < (kn2 : Int) := by omega
      clear hns
      go_wp2_with fail
      all_goals
       refine (HC.out _ _ _ (by first | omega | (split <;> omega)) (by first | omega | (split <;> omega))).mono ?_
       rintro e w2 ⟨rfl, rfl⟩
       go_wp2
       all_goals
        go_ret
        exact ⟨rfl, Hst.out.below⟩
    ·have j2 : ¬ (k : Int) < (ln1 : Int) := by omega
     clear hns
     go_wp2_with fail
     all_goals
      refine (HC.out _ _ _ (by first | omega | (split <;> omega)) (by first | omega | (split <;> omega))).mono ?_
      rintro e w2 ⟨rfl, rfl⟩
      go_wp2
      all_goals
       go_ret
       exact ⟨rfl, Hst.out.below⟩
   ·have j1 : ¬ (k : Int) < (kn1 : Int) := by omega
    clear hns
    go_wp2_with fail
    all_goals
     refine (HC.out _ _ _ (by first | omega | (split <;> omega)) (by first | omega | (split <;> omega))).mono ?_
     rintro e w2 ⟨rfl, rfl⟩
     go_wp2
     all_goals
      go_ret
      exact ⟨rfl, Hst.out.below⟩

end Go.Proofs.YtbicoknghdgahaaGreat
