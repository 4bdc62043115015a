/-
  value.FieldList: Compare and Equals.
-/
import Derived.Test.YtajeghkjppkhcaaGreatElemM
set_option linter.unusedVariables false
set_option linter.unusedSimpArgs false
namespace Go.Proofs.YtajeghkjppkhcaaGreat
open Go.RowKit
attribute [local go_sem] run_store_float

theorem stringsCompare_same (a b : ByteArray) (w : World) : Calls Tryz.prog 166 #[.string a, .string b] w fun e w' => e = .returned (.int .i64 (cmpS a b)) ∧ w' = w :=
  (stringsCompare_calls a b w).mono fun _ _ h => ⟨h.1, h.2.symm⟩
theorem cmpM_step {l1 l2 : List (ByteArray × T)} {k : Nat} (h1 : k < l1.length) (h2 : k < l2.length) : T.cmpM (l1.drop k) (l2.drop k) = if cmpS l1[k].1 l2[k].1 = 0 then (if T.cmp l1[k].2 l2[k].2 = 0 then T.cmpM (l1.drop (k + 1)) (l2.drop (k + 1)) else T.cmp l1[k].2 l2[k].2) else cmpS l1[k].1 l2[k].1 := by
  rw [List.drop_eq_getElem_cons h1, List.drop_eq_getElem_cons h2, T.cmpM]
def FLI (l1 l2 : List (ByteArray × T)) (d : Int) (w : World) (s : Value) (W : World) : Prop := ∃ k : Nat, s = .int .i64 (k : Int) ∧ k ≤ l1.length ∧ k ≤ l2.length ∧ T.cmpM (l1.drop k) (l2.drop k) = d ∧ Below w.heap.size w W
/-- the two values that a round loads -/
def FLS (b1 o1 b2 o2 k : Nat) (u v : Value) (W : World) : Prop := W.cell? ⟨b1, o1 + k * 2 + 1, none⟩ = some u ∧ W.cell? ⟨b2, o2 + k * 2 + 1, none⟩ = some v

set_option maxRecDepth 100000 in
set_option maxHeartbeats 4000000 in
theorem flCompare_calls {l1 l2 : List (ByteArray × T)} {A1 A2 : Option Addr} {c1 c2 : Nat} {w : World} (h1 : FLAt (Old w) w l1 A1 c1) (h2 : FLAt (Old w) w l2 A2 c2) :
    Calls Tryz.prog 167 #[.slice A1 l1.length c1, .slice A2 l2.length c2] w (CmpPost (T.cmpM l1 l2) w) := by
  obtain ⟨_, _, hb1, xs1, hr1, hx1⟩ := h1
  obtain ⟨_, _, hb2, xs2, hr2, hx2⟩ := h2
  have hn1 : l1.length ≤ 8796093022208 := by unfold R47 at hb1; omega
  have hn2 : l2.length ≤ 8796093022208 := by unfold R47 at hb2; omega
  have H1 := hide (And.intro hr1 hx1)
  have H2 := hide (And.intro hr2 hx2)
  obtain ⟨d, hd⟩ : ∃ d, T.cmpM l1 l2 = d := ⟨_, rfl⟩
  rw [hd]
  have Hd := hide hd
  clear hr1 hx1 hr2 hx2 hb1 hb2 hd
  go_enter Tryz.func167, Tryz.ntmps167
  go_wp2_with fail
  go_loopw [5] (fun s W => FLI l1 l2 d w s W) (fun s _ => l1.length - (intOf s).toNat)
  case atStart => exact ⟨0, rfl, Nat.zero_le _, Nat.zero_le _, by simpa using Hd.out, Below.refl _ _⟩
  case round =>
    obtain ⟨k, rfl, hk1, hk2, hkd, hb⟩ := hrel
    have hki0 : (0 : Int) ≤ (k : Int) := Int.natCast_nonneg _
    by_cases e1 : k < l1.length
    · have hki1 : (k : Int) < (l1.length : Int) := by omega
      by_cases e2 : k < l2.length
      · have hki2 : (k : Int) < (l2.length : Int) := by omega
        rw [cmpM_step e1 e2] at hkd
        obtain ⟨g1, hc1, hs1, hv1⟩ := H1.out.2.at_ e1
        obtain ⟨g2, hc2, hs2, hv2⟩ := H2.out.2.at_ e2
        obtain ⟨b1, o1, rfl, hF1, hg1⟩ := rown_at H1.out.1 e1 hc1
        obtain ⟨b2, o2, rfl, hF2, hg2⟩ := rown_at H2.out.1 e2 hc2
        have p0 := hg1 0 _ rfl
        have p1 := hg1 1 _ rfl
        have q0 := hg2 0 _ rfl
        have q1 := hg2 1 _ rfl
        rw [← (bcell hb).1 _ _ hF1] at p0 p1
        rw [← (bcell hb).1 _ _ hF2] at q0 q1
        rw [Nat.add_zero] at p0 q0
        have hcmp := fun (W : World) (hb : Below w.heap.size w W) => compareV_calls (hv1.at_ hb) (hv2.at_ hb)
        generalize l1[k] = a at *
        generalize l2[k] = b at *
        obtain ⟨ka, ta⟩ := a
        obtain ⟨kb, tb⟩ := b
        simp only at p0 p1 q0 q1 hkd hcmp
        obtain ⟨x, hx⟩ : ∃ x, cmpS ka kb = x := ⟨_, rfl⟩
        obtain ⟨y, hy⟩ : ∃ y, T.cmp ta tb = y := ⟨_, rfl⟩
        rw [hx, hy] at hkd
        rw [hy] at hcmp
        have hsc := fun W => stringsCompare_same ka kb W
        rw [hx] at hsc
        have Hsc := hide hsc
        have Hcmp := hide hcmp
        have hl1 : b1 < w.heap.size := hF1
        have hl2 : b2 < w.heap.size := hF2
        have hsw := hb.size
        have Hb := hide hb
        clear hc1 hc2 hs1 hs2 hv1 hv2 hg1 hg2 hF1 hF2 hx hy hsc hcmp hb
        by_cases hx0 : x = 0
        · subst hx0
          rw [if_pos rfl] at hkd
          have Hkd := hide hkd
          clear hkd
          go_wp2_with fail
          go_quiet ((go_at_call 166; exact Calls.quiet_of_same (Hsc.out _)))
          go_wp2_with fail
          generalize hWW : wr.drewN _ = W2
          have hb2 : Below w.heap.size w W2 := by rw [← hWW]; exact below_drewN Hb.out _
          have r1 : W2.cell? ⟨b1, o1 + k * 2 + 1, none⟩ = some (.iface 249 (.pointer (some g1))) := by rw [← hWW]; exact p1
          have r2 : W2.cell? ⟨b2, o2 + k * 2 + 1, none⟩ = some (.iface 249 (.pointer (some g2))) := by rw [← hWW]; exact q1
          have hsz2 := hb2.size
          clear hWW p0 p1 q0 q1 Hb hsw
          have hS0 : FLS b1 o1 b2 o2 k (.iface 249 (.pointer (some g1))) (.iface 249 (.pointer (some g2))) W2.drew := ⟨r1, r2⟩
          obtain ⟨S, hS⟩ : ∃ S, FLS b1 o1 b2 o2 k (.iface 249 (.pointer (some g1))) (.iface 249 (.pointer (some g2))) = S := ⟨_, rfl⟩
          rw [hS] at hS0
          have Hk := hide (And.intro hb2 (And.intro r1 r2))
          clear hb2 r1 r2
          refine wp_region_head 11 S (by rfl) (by kernel_rfl) ?_
          refine HT.take 0 (v := ?_) rfl (by kernel_rfl) (fun _ _ _ h => h) (Or.inl ⟨by rfl, ?_⟩) (by assumption) ?_
          rotate_left
          · intro W hSw; rw [← hS] at hSw; obtain ⟨s0, s1⟩ := (show W.cell? ⟨b1, o1 + k * 2 + 1, none⟩ = some (.iface 249 (.pointer (some g1))) ∧ W.cell? ⟨b2, o2 + k * 2 + 1, none⟩ = some (.iface 249 (.pointer (some g2))) from hSw); go_simp; with_reducible rfl
          simp only [Act.put, List.setIfInBounds_toArray, List.set_cons_zero, List.set_cons_succ]
          refine HT.take 1 (v := ?_) rfl (by kernel_rfl) (fun _ _ _ h => h) (Or.inl ⟨by rfl, ?_⟩) (by assumption) ?_
          rotate_left
          · intro W hSw; rw [← hS] at hSw; obtain ⟨s0, s1⟩ := (show W.cell? ⟨b1, o1 + k * 2 + 1, none⟩ = some (.iface 249 (.pointer (some g1))) ∧ W.cell? ⟨b2, o2 + k * 2 + 1, none⟩ = some (.iface 249 (.pointer (some g2))) from hSw); go_simp; with_reducible rfl
          simp only [Act.put, List.setIfInBounds_toArray, List.set_cons_zero, List.set_cons_succ]
          refine HT.take 2 (v := ?_) rfl (by kernel_rfl) (fun _ _ _ h => h) (Or.inl ⟨by rfl, ?_⟩) (by assumption) ?_
          rotate_left
          · intro W hSw; rw [← hS] at hSw; obtain ⟨s0, s1⟩ := (show W.cell? ⟨b1, o1 + k * 2 + 1, none⟩ = some (.iface 249 (.pointer (some g1))) ∧ W.cell? ⟨b2, o2 + k * 2 + 1, none⟩ = some (.iface 249 (.pointer (some g2))) from hSw); go_simp; with_reducible rfl
          simp only [Act.put, List.setIfInBounds_toArray, List.set_cons_zero, List.set_cons_succ]
          refine HT.take 3 (v := ?_) rfl (by kernel_rfl) (fun _ _ _ h => h) (Or.inl ⟨by rfl, ?_⟩) (by assumption) ?_
          rotate_left
          · intro W hSw; rw [← hS] at hSw; obtain ⟨s0, s1⟩ := (show W.cell? ⟨b1, o1 + k * 2 + 1, none⟩ = some (.iface 249 (.pointer (some g1))) ∧ W.cell? ⟨b2, o2 + k * 2 + 1, none⟩ = some (.iface 249 (.pointer (some g2))) from hSw); go_simp; with_reducible rfl
          simp only [Act.put, List.setIfInBounds_toArray, List.set_cons_zero, List.set_cons_succ]
          refine HT.take 4 (v := ?_) rfl (by kernel_rfl) (fun _ _ _ h => h) (Or.inl ⟨by rfl, ?_⟩) (by assumption) ?_
          rotate_left
          · intro W hSw; rw [← hS] at hSw; obtain ⟨s0, s1⟩ := (show W.cell? ⟨b1, o1 + k * 2 + 1, none⟩ = some (.iface 249 (.pointer (some g1))) ∧ W.cell? ⟨b2, o2 + k * 2 + 1, none⟩ = some (.iface 249 (.pointer (some g2))) from hSw); go_simp; with_reducible rfl
          simp only [Act.put, List.setIfInBounds_toArray, List.set_cons_zero, List.set_cons_succ]
          refine HT.take 5 (v := ?_) rfl (by kernel_rfl) (fun _ _ _ h => h) (Or.inl ⟨by rfl, ?_⟩) (by assumption) ?_
          rotate_left
          · intro W hSw; rw [← hS] at hSw; obtain ⟨s0, s1⟩ := (show W.cell? ⟨b1, o1 + k * 2 + 1, none⟩ = some (.iface 249 (.pointer (some g1))) ∧ W.cell? ⟨b2, o2 + k * 2 + 1, none⟩ = some (.iface 249 (.pointer (some g2))) from hSw); go_simp; with_reducible rfl
          simp only [Act.put, List.setIfInBounds_toArray, List.set_cons_zero, List.set_cons_succ]
          refine HT.take 6 (v := ?_) rfl (by kernel_rfl) (fun _ _ _ h => h) (Or.inl ⟨by rfl, ?_⟩) (by assumption) ?_
          rotate_left
          · intro W hSw; rw [← hS] at hSw; obtain ⟨s0, s1⟩ := (show W.cell? ⟨b1, o1 + k * 2 + 1, none⟩ = some (.iface 249 (.pointer (some g1))) ∧ W.cell? ⟨b2, o2 + k * 2 + 1, none⟩ = some (.iface 249 (.pointer (some g2))) from hSw); go_simp; with_reducible rfl
          simp only [Act.put, List.setIfInBounds_toArray, List.set_cons_zero, List.set_cons_succ]
          refine HT.take 7 (v := ?_) rfl (by kernel_rfl) (fun _ _ _ h => h) (Or.inl ⟨by rfl, ?_⟩) (by assumption) ?_
          rotate_left
          · intro W hSw; rw [← hS] at hSw; obtain ⟨s0, s1⟩ := (show W.cell? ⟨b1, o1 + k * 2 + 1, none⟩ = some (.iface 249 (.pointer (some g1))) ∧ W.cell? ⟨b2, o2 + k * 2 + 1, none⟩ = some (.iface 249 (.pointer (some g2))) from hSw); go_simp; with_reducible rfl
          simp only [Act.put, List.setIfInBounds_toArray, List.set_cons_zero, List.set_cons_succ]
          refine HT.take 8 (v := ?_) rfl (by kernel_rfl) (fun _ _ _ h => h) (Or.inl ⟨by rfl, ?_⟩) (by assumption) ?_
          rotate_left
          · intro W hSw; rw [← hS] at hSw; obtain ⟨s0, s1⟩ := (show W.cell? ⟨b1, o1 + k * 2 + 1, none⟩ = some (.iface 249 (.pointer (some g1))) ∧ W.cell? ⟨b2, o2 + k * 2 + 1, none⟩ = some (.iface 249 (.pointer (some g2))) from hSw); go_simp; with_reducible rfl
          simp only [Act.put, List.setIfInBounds_toArray, List.set_cons_zero, List.set_cons_succ]
          refine HT.take 9 (v := ?_) rfl (by kernel_rfl) (fun _ _ _ h => h) (Or.inl ⟨by rfl, ?_⟩) (by assumption) ?_
          rotate_left
          · intro W hSw; rw [← hS] at hSw; obtain ⟨s0, s1⟩ := (show W.cell? ⟨b1, o1 + k * 2 + 1, none⟩ = some (.iface 249 (.pointer (some g1))) ∧ W.cell? ⟨b2, o2 + k * 2 + 1, none⟩ = some (.iface 249 (.pointer (some g2))) from hSw); go_simp; with_reducible rfl
          simp only [Act.put, List.setIfInBounds_toArray, List.set_cons_zero, List.set_cons_succ]
          refine HT.one 10 rfl (by kernel_rfl) (by rfl) (fun K hK => ?_)
          go_simp
          refine (Hcmp.out W2.drew (below_drew Hk.out.1)).mono ?_
          rintro e w9 ⟨rfl, hb9⟩
          have hb9' : Below W2.heap.size W2 w9 := below_drew' hb9
          have eb := (bcell hb9').1
          go_simp
          refine hK.out _ _ (by rw [← hS]; exact ⟨(eb _ _ (by omega)).trans Hk.out.2.1, (eb _ _ (by omega)).trans Hk.out.2.2⟩) ?_
          clear hK
          refine HT.done (by kernel_rfl) ?_
          simp only [List.drop_succ_cons, List.drop_zero]
          have Hbz := hide (Hk.out.1.trans (hb9'.mono Hk.out.1.size))
          clear hb9 hb9' hS0 hS Hk eb
          by_cases hy0 : y = 0
          · subst hy0
            have hkd := Hkd.out
            rw [if_pos rfl] at hkd
            have Hkd2 := hide hkd
            clear hkd Hkd
            go_wp2_with fail
            exact ⟨⟨k + 1, rfl, e1, e2, Hkd2.out, Hbz.out⟩, by simp [intOf]; omega⟩
          · have hkd := Hkd.out
            rw [if_neg hy0] at hkd
            have y1 : (y == 0) = false := by simpa using hy0
            have y2 : (y != 0) = true := by simpa using hy0
            have Hkd2 := hide hkd
            clear hkd Hkd
            go_wp2_with fail
            go_ret
            have hfin := Hkd2.out
            subst hfin
            exact ⟨rfl, Hbz.out⟩
        · rw [if_neg hx0] at hkd
          have x1 : (x == 0) = false := by simpa using hx0
          have x2 : (x != 0) = true := by simpa using hx0
          have Hkd := hide hkd
          clear hkd
          go_wp2_with fail
          go_quiet ((go_at_call 166; exact Calls.quiet_of_same (Hsc.out _)))
          go_wp2
          go_ret
          have hfin := Hkd.out
          subst hfin
          exact ⟨rfl, below_drewN Hb.out _⟩
      · have hke : k = l2.length := by omega
        have hki2 : ¬ (k : Int) < (l2.length : Int) := by omega
        have hki3 : (l2.length : Int) ≤ (k : Int) := by omega
        have hd1 : d = 1 := by
          rw [← hkd, show l2.drop k = [] from List.drop_of_length_le (by omega), List.drop_eq_getElem_cons e1, T.cmpM]
        subst hd1
        have Hb := hide hb
        clear hb hkd hke
        go_wp2
        go_ret
        exact ⟨rfl, Hb.out⟩
    · have hki1 : ¬ (k : Int) < (l1.length : Int) := by omega
      have hki3 : (l1.length : Int) ≤ (k : Int) := by omega
      by_cases e2 : k < l2.length
      · have hki2 : (k : Int) < (l2.length : Int) := by omega
        have hd1 : d = -1 := by
          rw [← hkd, show l1.drop k = [] from List.drop_of_length_le (by omega), List.drop_eq_getElem_cons e2, T.cmpM]
        subst hd1
        have Hb := hide hb
        clear hb hkd
        go_wp2
        go_ret
        exact ⟨rfl, Hb.out⟩
      · have hki2 : ¬ (k : Int) < (l2.length : Int) := by omega
        have hki4 : (l2.length : Int) ≤ (k : Int) := by omega
        have hd1 : d = 0 := by
          rw [← hkd, show l1.drop k = [] from List.drop_of_length_le (by omega), show l2.drop k = [] from List.drop_of_length_le (by omega), T.cmpM]
        subst hd1
        have Hb := hide hb
        clear hb hkd
        go_wp2
        go_ret
        exact ⟨rfl, Hb.out⟩

end Go.Proofs.YtajeghkjppkhcaaGreat
