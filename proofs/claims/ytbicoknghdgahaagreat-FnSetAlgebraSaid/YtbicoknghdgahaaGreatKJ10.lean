/- Parts: LawSetAlgebra. -/
import Derived.Test.YtbicoknghdgahaaGreatKJ09
set_option linter.unusedVariables false
set_option linter.unusedSimpArgs false
namespace Go.Proofs.YtbicoknghdgahaaGreat
open Go.RowKit
attribute [local go_sem] run_store_float

set_option maxRecDepth 100000 in
set_option maxHeartbeats 16000000 in
theorem setAlgebraLaw {l m r : List (List REl)} {A B D : Option Addr} {c d f : Nat} {w : World} (h : PathsAt (Old w) w l A c) (h' : PathsAt (Old w) w m B d) (h'' : PathsAt (Old w) w r D f) :
  Calls Tryz.prog 10 #[.slice A l.length c, .slice B m.length d, .slice D r.length f] w (LawPost w) := by
 have HB := hide fun (hn : (l.length + m.length) * 24 ≤ R47) => both_calls h h' hn
 have HC := hide fun (hn : (l.length + m.length + r.length) * 24 ≤ R47) (W : World) (C : Option Addr) (k : Nat) (hp : PathsAt (Old W) W (l ++ m) C k) (hb : Below w.heap.size w W) => both_calls hp (h''.at_ hb) (by rw [List.length_append]; exact hn)
 have HT := hide fun (W : World) (C : Option Addr) (k : Nat) (hp : PathsAt (Old W) W (l ++ m ++ r) C k) => orderlyPaths_calls hp
 obtain ⟨N, hN, hN47⟩ := ht_some
 have HN := hide (show 0 < N ∧ N * 168 ≤ R47 from ⟨by omega, hN47⟩)
 have HV := hide fun (hl : ∀ p ∈ pels l, POk p) (hm : ∀ p ∈ pels m, POk p) (hr : ∀ p ∈ pels r, POk p) (h1 : l.length ≤ 2147483647) (h2 : m.length ≤ 2147483647) (h3 : r.length ≤ 2147483647) (W : World) (hb : Below w.heap.size w W) =>
  (show LVal N 2147483647 W l A l.length c ∧ LVal N 2147483647 W m B m.length d ∧ LVal N 2147483647 W r D r.length f from
   ⟨⟨h.at_ hb, ⟨hl, ht_any h hN, h1⟩, rfl⟩, ⟨h'.at_ hb, ⟨hm, ht_any h' hN, h2⟩, rfl⟩, ⟨h''.at_ hb, ⟨hr, ht_any h'' hN, h3⟩, rfl⟩⟩)
 have Hlm := hide (show (l ++ m).length = l.length + m.length from List.length_append)
 have Hlmr := hide (show (l ++ m ++ r).length = l.length + m.length + r.length by rw [List.length_append, List.length_append])
 clear h h' h'' hN hN47
 have Hok := hide (show (∀ p ∈ l ++ m ++ r, POk (pel p)) → (∀ p ∈ pels l, POk p) ∧ (∀ p ∈ pels m, POk p) ∧ ∀ p ∈ pels r, POk p from fun hall => ⟨pels_all fun p hp => hall p (by simp [hp]), pels_all fun p hp => hall p (by simp [hp]), pels_all fun p hp => hall p (by simp [hp])⟩)
 generalize (∀ p ∈ l ++ m ++ r, POk (pel p)) = P0 at *
 generalize (∀ p ∈ pels l, POk p) = P at *
 generalize (∀ p ∈ pels m, POk p) = P' at *
 generalize (∀ p ∈ pels r, POk p) = P'' at *
 generalize l.length = n at *
 generalize m.length = k at *
 generalize r.length = j at *
 by_cases hbig0 : 2147483647 < n
 ·have gi0 : (2147483647 : Int) < (n : Int) := by omega
  have gd0 : decide ((2147483647 : Int) < (n : Int)) = true := decide_eq_true gi0
  go_enter Tryz.func10, Tryz.ntmps10
  go_wp2
  go_ret
  exact ⟨rfl, Below.refl _ _⟩
 have gi0 : ¬ (2147483647 : Int) < (n : Int) := by omega
 have gd0 : decide ((2147483647 : Int) < (n : Int)) = false := decide_eq_false gi0
 by_cases hbig1 : 2147483647 < k
 ·have gi1 : (2147483647 : Int) < (k : Int) := by omega
  have gd1 : decide ((2147483647 : Int) < (k : Int)) = true := decide_eq_true gi1
  go_enter Tryz.func10, Tryz.ntmps10
  go_wp2
  go_ret
  exact ⟨rfl, Below.refl _ _⟩
 have gi1 : ¬ (2147483647 : Int) < (k : Int) := by omega
 have gd1 : decide ((2147483647 : Int) < (k : Int)) = false := decide_eq_false gi1
 by_cases hbig2 : 2147483647 < j
 ·have gi2 : (2147483647 : Int) < (j : Int) := by omega
  have gd2 : decide ((2147483647 : Int) < (j : Int)) = true := decide_eq_true gi2
  go_enter Tryz.func10, Tryz.ntmps10
  go_wp2
  go_ret
  exact ⟨rfl, Below.refl _ _⟩
 have gi2 : ¬ (2147483647 : Int) < (j : Int) := by omega
 have gd2 : decide ((2147483647 : Int) < (j : Int)) = false := decide_eq_false gi2
 have hn24 : (n + k) * 24 ≤ R47 := by unfold R47; omega
 have hn24' : (n + k + j) * 24 ≤ R47 := by unfold R47; omega
 have HB1 := hide (HB.out hn24)
 have HC1 := hide (HC.out hn24')
 have HV1 := hide fun hl hm hr => HV.out hl hm hr (by omega) (by omega) (by omega)
 clear HB HC HV
 go_enter Tryz.func10, Tryz.ntmps10
 go_wp2_with fail
 refine HB1.out.mono ?_
 rintro e x1 ⟨A1, c1, rfl, hp1, hb1⟩
 have HC2 := hide (HC1.out x1 A1 c1 hp1 hb1)
 have Hb1 := hide hb1
 rw [Hlm.out] at HC2 ⊢
 clear hp1 hb1 HB1 HC1
 go_wp2_with fail
 refine HC2.out.mono ?_
 rintro e x2 ⟨A2, c2, rfl, hp2, hb2⟩
 have HT1 := hide (HT.out x2 A2 c2 hp2)
 have Hb2 := hide (Hb1.out.trans (hb2.mono Hb1.out.size))
 rw [Hlmr.out] at HT1 ⊢
 clear hp2 hb2 HC2 HT Hlm Hlmr Hb1
 go_wp2_with fail
 refine HT1.out.mono ?_
 rintro e x3 ⟨t, rfl, ho, hb3⟩
 have Ho := hide ho
 have Hb := hide (Hb2.out.trans (hb3.mono Hb2.out.size))
 clear ho hb3 HT1 Hb2
 cases t
 ·go_wp2
  go_ret
  exact ⟨rfl, Hb.out⟩
 have hpp := Hok.out (Ho.out (by first | trivial | rfl))
 have HV2 := hide (HV1.out hpp.1 hpp.2.1 hpp.2.2)
 have HG := hide (show GoodL N 2147483647 l ∧ GoodL N 2147483647 m ∧ GoodL N 2147483647 r from ⟨(HV2.out w (Below.refl _ _)).1.good, (HV2.out w (Below.refl _ _)).2.1.good, (HV2.out w (Below.refl _ _)).2.2.good⟩)
 clear hpp Ho Hok HV1
 go_wp2_with fail
 refine (lv_un HN.out (HV2.out x3 Hb.out).1 (HV2.out x3 Hb.out).2.1 (by unfold N38; omega)).mono ?_
 rintro e w1 ⟨A1, n1, c1, rfl, hv, hb⟩
 have H1 := hide hv
 clear hv
 have Hb1 := hide (Hb.out.trans (hb.mono Hb.out.size))
 clear hb Hb 
 go_wp2_with fail
 refine (lv_un HN.out (HV2.out w1 Hb1.out).2.1 (HV2.out w1 Hb1.out).1 (by unfold N38; omega)).mono ?_
 rintro e w2 ⟨A2, n2, c2, rfl, hv, hb⟩
 have H2 := hide hv
 clear hv
 have H1_2 := hide (H1.out.on hb)
 have Hb2 := hide (Hb1.out.trans (hb.mono Hb1.out.size))
 clear hb Hb1 H1
 go_wp2_with fail
 refine (lv_eq H1_2.out H2.out (by unfold N38; omega) (by unfold N38; omega) (alg_unC HN.out.1 HG.out.1 HG.out.2.1 HG.out.2.2)).mono ?_
 rintro e w3 ⟨rfl, hb⟩
 have Hb3 := hide (Hb2.out.trans (hb.mono Hb2.out.size))
 clear hb Hb2 H1_2 H2
 go_wp2_with fail
 refine (lv_un HN.out (HV2.out w3 Hb3.out).1 (HV2.out w3 Hb3.out).2.1 (by unfold N38; omega)).mono ?_
 rintro e w4 ⟨A4, n4, c4, rfl, hv, hb⟩
 have H4 := hide hv
 clear hv
 have Hb4 := hide (Hb3.out.trans (hb.mono Hb3.out.size))
 clear hb Hb3 
 go_wp2_with fail
 refine (lv_un HN.out H4.out (HV2.out w4 Hb4.out).2.2 (by unfold N38; omega)).mono ?_
 rintro e w5 ⟨A5, n5, c5, rfl, hv, hb⟩
 have H5 := hide hv
 clear hv
 have Hb5 := hide (Hb4.out.trans (hb.mono Hb4.out.size))
 clear hb Hb4 H4
 go_wp2_with fail
 refine (lv_un HN.out (HV2.out w5 Hb5.out).2.1 (HV2.out w5 Hb5.out).2.2 (by unfold N38; omega)).mono ?_
 rintro e w6 ⟨A6, n6, c6, rfl, hv, hb⟩
 have H6 := hide hv
 clear hv
 have H5_6 := hide (H5.out.on hb)
 have Hb6 := hide (Hb5.out.trans (hb.mono Hb5.out.size))
 clear hb Hb5 H5
 go_wp2_with fail
 refine (lv_un HN.out (HV2.out w6 Hb6.out).1 H6.out (by unfold N38; omega)).mono ?_
 rintro e w7 ⟨A7, n7, c7, rfl, hv, hb⟩
 have H7 := hide hv
 clear hv
 have H5_7 := hide (H5_6.out.on hb)
 have Hb7 := hide (Hb6.out.trans (hb.mono Hb6.out.size))
 clear hb Hb6 H5_6 H6
 go_wp2_with fail
 refine (lv_eq H5_7.out H7.out (by unfold N38; omega) (by unfold N38; omega) (alg_unA HN.out.1 HG.out.1 HG.out.2.1 HG.out.2.2)).mono ?_
 rintro e w8 ⟨rfl, hb⟩
 have Hb8 := hide (Hb7.out.trans (hb.mono Hb7.out.size))
 clear hb Hb7 H5_7 H7
 go_wp2_with fail
 refine (lv_meet HN.out (HV2.out w8 Hb8.out).1 (HV2.out w8 Hb8.out).2.1 (by unfold N38; omega)).mono ?_
 rintro e w9 ⟨A9, n9, c9, rfl, hv, hb⟩
 have H9 := hide hv
 clear hv
 have Hb9 := hide (Hb8.out.trans (hb.mono Hb8.out.size))
 clear hb Hb8 
 go_wp2_with fail
 refine (lv_meet HN.out (HV2.out w9 Hb9.out).2.1 (HV2.out w9 Hb9.out).1 (by unfold N38; omega)).mono ?_
 rintro e w10 ⟨A10, n10, c10, rfl, hv, hb⟩
 have H10 := hide hv
 clear hv
 have H9_10 := hide (H9.out.on hb)
 have Hb10 := hide (Hb9.out.trans (hb.mono Hb9.out.size))
 clear hb Hb9 H9
 go_wp2_with fail
 refine (lv_eq H9_10.out H10.out (by unfold N38; omega) (by unfold N38; omega) (alg_meetC HN.out.1 HG.out.1 HG.out.2.1 HG.out.2.2)).mono ?_
 rintro e w11 ⟨rfl, hb⟩
 have Hb11 := hide (Hb10.out.trans (hb.mono Hb10.out.size))
 clear hb Hb10 H9_10 H10
 go_wp2_with fail
 refine (lv_meet HN.out (HV2.out w11 Hb11.out).1 (HV2.out w11 Hb11.out).2.1 (by unfold N38; omega)).mono ?_
 rintro e w12 ⟨A12, n12, c12, rfl, hv, hb⟩
 have H12 := hide hv
 clear hv
 have Hb12 := hide (Hb11.out.trans (hb.mono Hb11.out.size))
 clear hb Hb11 
 go_wp2_with fail
 refine (lv_meet HN.out H12.out (HV2.out w12 Hb12.out).2.2 (by unfold N38; omega)).mono ?_
 rintro e w13 ⟨A13, n13, c13, rfl, hv, hb⟩
 have H13 := hide hv
 clear hv
 have Hb13 := hide (Hb12.out.trans (hb.mono Hb12.out.size))
 clear hb Hb12 H12
 go_wp2_with fail
 refine (lv_meet HN.out (HV2.out w13 Hb13.out).2.1 (HV2.out w13 Hb13.out).2.2 (by unfold N38; omega)).mono ?_
 rintro e w14 ⟨A14, n14, c14, rfl, hv, hb⟩
 have H14 := hide hv
 clear hv
 have H13_14 := hide (H13.out.on hb)
 have Hb14 := hide (Hb13.out.trans (hb.mono Hb13.out.size))
 clear hb Hb13 H13
 go_wp2_with fail
 refine (lv_meet HN.out (HV2.out w14 Hb14.out).1 H14.out (by unfold N38; omega)).mono ?_
 rintro e w15 ⟨A15, n15, c15, rfl, hv, hb⟩
 have H15 := hide hv
 clear hv
 have H13_15 := hide (H13_14.out.on hb)
 have Hb15 := hide (Hb14.out.trans (hb.mono Hb14.out.size))
 clear hb Hb14 H13_14 H14
 go_wp2_with fail
 refine (lv_eq H13_15.out H15.out (by unfold N38; omega) (by unfold N38; omega) (alg_meetA HN.out.1 HG.out.1 HG.out.2.1 HG.out.2.2)).mono ?_
 rintro e w16 ⟨rfl, hb⟩
 have Hb16 := hide (Hb15.out.trans (hb.mono Hb15.out.size))
 clear hb Hb15 H13_15 H15
 go_wp2_with fail
 refine (lv_un HN.out (HV2.out w16 Hb16.out).2.1 (HV2.out w16 Hb16.out).2.2 (by unfold N38; omega)).mono ?_
 rintro e w17 ⟨A17, n17, c17, rfl, hv, hb⟩
 have H17 := hide hv
 clear hv
 have Hb17 := hide (Hb16.out.trans (hb.mono Hb16.out.size))
 clear hb Hb16 
 go_wp2_with fail
 refine (lv_meet HN.out (HV2.out w17 Hb17.out).1 H17.out (by unfold N38; omega)).mono ?_
 rintro e w18 ⟨A18, n18, c18, rfl, hv, hb⟩
 have H18 := hide hv
 clear hv
 have Hb18 := hide (Hb17.out.trans (hb.mono Hb17.out.size))
 clear hb Hb17 H17
 go_wp2_with fail
 refine (lv_meet HN.out (HV2.out w18 Hb18.out).1 (HV2.out w18 Hb18.out).2.1 (by unfold N38; omega)).mono ?_
 rintro e w19 ⟨A19, n19, c19, rfl, hv, hb⟩
 have H19 := hide hv
 clear hv
 have H18_19 := hide (H18.out.on hb)
 have Hb19 := hide (Hb18.out.trans (hb.mono Hb18.out.size))
 clear hb Hb18 H18
 go_wp2_with fail
 refine (lv_meet HN.out (HV2.out w19 Hb19.out).1 (HV2.out w19 Hb19.out).2.2 (by unfold N38; omega)).mono ?_
 rintro e w20 ⟨A20, n20, c20, rfl, hv, hb⟩
 have H20 := hide hv
 clear hv
 have H18_20 := hide (H18_19.out.on hb)
 have H19_20 := hide (H19.out.on hb)
 have Hb20 := hide (Hb19.out.trans (hb.mono Hb19.out.size))
 clear hb Hb19 H18_19 H19
 go_wp2_with fail
 refine (lv_un HN.out H19_20.out H20.out (by unfold N38; omega)).mono ?_
 rintro e w21 ⟨A21, n21, c21, rfl, hv, hb⟩
 have H21 := hide hv
 clear hv
 have H18_21 := hide (H18_20.out.on hb)
 have Hb21 := hide (Hb20.out.trans (hb.mono Hb20.out.size))
 clear hb Hb20 H18_20 H19_20 H20
 go_wp2_with fail
 refine (lv_eq H18_21.out H21.out (by unfold N38; omega) (by unfold N38; omega) (alg_meetUn HN.out.1 HG.out.1 HG.out.2.1 HG.out.2.2)).mono ?_
 rintro e w22 ⟨rfl, hb⟩
 have Hb22 := hide (Hb21.out.trans (hb.mono Hb21.out.size))
 clear hb Hb21 H18_21 H21
 go_wp2_with fail
 refine (lv_meet HN.out (HV2.out w22 Hb22.out).2.1 (HV2.out w22 Hb22.out).2.2 (by unfold N38; omega)).mono ?_
 rintro e w23 ⟨A23, n23, c23, rfl, hv, hb⟩
 have H23 := hide hv
 clear hv
 have Hb23 := hide (Hb22.out.trans (hb.mono Hb22.out.size))
 clear hb Hb22 
 go_wp2_with fail
 refine (lv_un HN.out (HV2.out w23 Hb23.out).1 H23.out (by unfold N38; omega)).mono ?_
 rintro e w24 ⟨A24, n24, c24, rfl, hv, hb⟩
 have H24 := hide hv
 clear hv
 have Hb24 := hide (Hb23.out.trans (hb.mono Hb23.out.size))
 clear hb Hb23 H23
 go_wp2_with fail
 refine (lv_un HN.out (HV2.out w24 Hb24.out).1 (HV2.out w24 Hb24.out).2.1 (by unfold N38; omega)).mono ?_
 rintro e w25 ⟨A25, n25, c25, rfl, hv, hb⟩
 have H25 := hide hv
 clear hv
 have H24_25 := hide (H24.out.on hb)
 have Hb25 := hide (Hb24.out.trans (hb.mono Hb24.out.size))
 clear hb Hb24 H24
 go_wp2_with fail
 refine (lv_un HN.out (HV2.out w25 Hb25.out).1 (HV2.out w25 Hb25.out).2.2 (by unfold N38; omega)).mono ?_
 rintro e w26 ⟨A26, n26, c26, rfl, hv, hb⟩
 have H26 := hide hv
 clear hv
 have H24_26 := hide (H24_25.out.on hb)
 have H25_26 := hide (H25.out.on hb)
 have Hb26 := hide (Hb25.out.trans (hb.mono Hb25.out.size))
 clear hb Hb25 H24_25 H25
 go_wp2_with fail
 refine (lv_meet HN.out H25_26.out H26.out (by unfold N38; omega)).mono ?_
 rintro e w27 ⟨A27, n27, c27, rfl, hv, hb⟩
 have H27 := hide hv
 clear hv
 have H24_27 := hide (H24_26.out.on hb)
 have Hb27 := hide (Hb26.out.trans (hb.mono Hb26.out.size))
 clear hb Hb26 H24_26 H25_26 H26
 go_wp2_with fail
 refine (lv_eq H24_27.out H27.out (by unfold N38; omega) (by unfold N38; omega) (alg_unMeet HN.out.1 HG.out.1 HG.out.2.1 HG.out.2.2)).mono ?_
 rintro e w28 ⟨rfl, hb⟩
 have Hb28 := hide (Hb27.out.trans (hb.mono Hb27.out.size))
 clear hb Hb27 H24_27 H27
 go_wp2_with fail
 refine (lv_un HN.out (HV2.out w28 Hb28.out).2.1 (HV2.out w28 Hb28.out).2.2 (by unfold N38; omega)).mono ?_
 rintro e w29 ⟨A29, n29, c29, rfl, hv, hb⟩
 have H29 := hide hv
 clear hv
 have Hb29 := hide (Hb28.out.trans (hb.mono Hb28.out.size))
 clear hb Hb28 
 go_wp2_with fail
 refine (lv_less HN.out (HV2.out w29 Hb29.out).1 H29.out (by unfold N38; omega)).mono ?_
 rintro e w30 ⟨A30, n30, c30, rfl, hv, hb⟩
 have H30 := hide hv
 clear hv
 have Hb30 := hide (Hb29.out.trans (hb.mono Hb29.out.size))
 clear hb Hb29 H29
 go_wp2_with fail
 refine (lv_less HN.out (HV2.out w30 Hb30.out).1 (HV2.out w30 Hb30.out).2.1 (by unfold N38; omega)).mono ?_
 rintro e w31 ⟨A31, n31, c31, rfl, hv, hb⟩
 have H31 := hide hv
 clear hv
 have H30_31 := hide (H30.out.on hb)
 have Hb31 := hide (Hb30.out.trans (hb.mono Hb30.out.size))
 clear hb Hb30 H30
 go_wp2_with fail
 refine (lv_less HN.out H31.out (HV2.out w31 Hb31.out).2.2 (by unfold N38; omega)).mono ?_
 rintro e w32 ⟨A32, n32, c32, rfl, hv, hb⟩
 have H32 := hide hv
 clear hv
 have H30_32 := hide (H30_31.out.on hb)
 have Hb32 := hide (Hb31.out.trans (hb.mono Hb31.out.size))
 clear hb Hb31 H30_31 H31
 go_wp2_with fail
 refine (lv_eq H30_32.out H32.out (by unfold N38; omega) (by unfold N38; omega) (alg_lessUn HN.out.1 HG.out.1 HG.out.2.1 HG.out.2.2)).mono ?_
 rintro e w33 ⟨rfl, hb⟩
 have Hb33 := hide (Hb32.out.trans (hb.mono Hb32.out.size))
 clear hb Hb32 H30_32 H32
 go_wp2_with fail
 refine (lv_meet HN.out (HV2.out w33 Hb33.out).2.1 (HV2.out w33 Hb33.out).2.2 (by unfold N38; omega)).mono ?_
 rintro e w34 ⟨A34, n34, c34, rfl, hv, hb⟩
 have H34 := hide hv
 clear hv
 have Hb34 := hide (Hb33.out.trans (hb.mono Hb33.out.size))
 clear hb Hb33 
 go_wp2_with fail
 refine (lv_less HN.out (HV2.out w34 Hb34.out).1 H34.out (by unfold N38; omega)).mono ?_
 rintro e w35 ⟨A35, n35, c35, rfl, hv, hb⟩
 have H35 := hide hv
 clear hv
 have Hb35 := hide (Hb34.out.trans (hb.mono Hb34.out.size))
 clear hb Hb34 H34
 go_wp2_with fail
 refine (lv_less HN.out (HV2.out w35 Hb35.out).1 (HV2.out w35 Hb35.out).2.1 (by unfold N38; omega)).mono ?_
 rintro e w36 ⟨A36, n36, c36, rfl, hv, hb⟩
 have H36 := hide hv
 clear hv
 have H35_36 := hide (H35.out.on hb)
 have Hb36 := hide (Hb35.out.trans (hb.mono Hb35.out.size))
 clear hb Hb35 H35
 go_wp2_with fail
 refine (lv_less HN.out (HV2.out w36 Hb36.out).1 (HV2.out w36 Hb36.out).2.2 (by unfold N38; omega)).mono ?_
 rintro e w37 ⟨A37, n37, c37, rfl, hv, hb⟩
 have H37 := hide hv
 clear hv
 have H35_37 := hide (H35_36.out.on hb)
 have H36_37 := hide (H36.out.on hb)
 have Hb37 := hide (Hb36.out.trans (hb.mono Hb36.out.size))
 clear hb Hb36 H35_36 H36
 go_wp2_with fail
 refine (lv_un HN.out H36_37.out H37.out (by unfold N38; omega)).mono ?_
 rintro e w38 ⟨A38, n38, c38, rfl, hv, hb⟩
 have H38 := hide hv
 clear hv
 have H35_38 := hide (H35_37.out.on hb)
 have Hb38 := hide (Hb37.out.trans (hb.mono Hb37.out.size))
 clear hb Hb37 H35_37 H36_37 H37
 go_wp2_with fail
 refine (lv_eq H35_38.out H38.out (by unfold N38; omega) (by unfold N38; omega) (alg_lessMeet HN.out.1 HG.out.1 HG.out.2.1 HG.out.2.2)).mono ?_
 rintro e w39 ⟨rfl, hb⟩
 have Hb39 := hide (Hb38.out.trans (hb.mono Hb38.out.size))
 clear hb Hb38 H35_38 H38
 go_wp2
 go_ret
 exact ⟨rfl, Hb39.out⟩
end Go.Proofs.YtbicoknghdgahaaGreat
