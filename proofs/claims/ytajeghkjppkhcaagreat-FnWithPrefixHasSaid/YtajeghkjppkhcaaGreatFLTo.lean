/-
  Several texts in one: FieldList, ToElem.
-/
import Derived.Test.YtajeghkjppkhcaaGreatElemM
set_option linter.unusedVariables false
set_option linter.unusedSimpArgs false
/-!
  value.FieldList: Compare and Equals.
-/

namespace Go.Proofs.YtajeghkjppkhcaaGreat
open Go.RowKit
attribute [local go_sem] run_store_float

theorem stringsCompare_same (a b : ByteArray) (w : World) : Calls Tryz.prog 166 #[.string a, .string b] w fun e w' => e = .returned (.int .i64 (cmpS a b)) ∧ w' = w :=
  (stringsCompare_calls a b w).mono fun _ _ h => ⟨h.1, h.2.symm⟩
theorem cmpM_step {l1 l2 : List (ByteArray × T)} {k : Nat} (h1 : k < l1.length) (h2 : k < l2.length) : T.cmpM (l1.drop k) (l2.drop k) = if cmpS l1[k].1 l2[k].1 = 0 then (if T.cmp l1[k].2 l2[k].2 = 0 then T.cmpM (l1.drop (k + 1)) (l2.drop (k + 1)) else T.cmp l1[k].2 l2[k].2) else cmpS l1[k].1 l2[k].1 := by
  rw [List.drop_eq_getElem_cons h1, List.drop_eq_getElem_cons h2, T.cmpM]
def FLI (l1 l2 : List (ByteArray × T)) (d : Int) (w : World) (s : Value) (W : World) : Prop := ∃ k : Nat, s = .int .i64 (k : Int) ∧ k ≤ l1.length ∧ k ≤ l2.length ∧ T.cmpM (l1.drop k) (l2.drop k) = d ∧ Below w.heap.size w W
/-- the two values that a round loads -/
def FLS (b1 o1 b2 o2 k : Nat) (u v : Value) (W : World) : Prop := W.cell? ⟨b1, o1 + k * 2 + 1, none⟩ = some u ∧ W.cell? ⟨b2, o2 + k * 2 + 1, none⟩ = some v

set_option maxRecDepth 100000 in
set_option maxHeartbeats 4000000 in
theorem flCompare_calls {l1 l2 : List (ByteArray × T)} {A1 A2 : Option Addr} {c1 c2 : Nat} {w : World} (h1 : FLAt (Old w) w l1 A1 c1) (h2 : FLAt (Old w) w l2 A2 c2) :
    Calls Tryz.prog 167 #[.slice A1 l1.length c1, .slice A2 l2.length c2] w (CmpPost (T.cmpM l1 l2) w) := by
  obtain ⟨_, _, hb1, xs1, hr1, hx1⟩ := h1
  obtain ⟨_, _, hb2, xs2, hr2, hx2⟩ := h2
  have hn1 : l1.length ≤ 8796093022208 := by unfold R47 at hb1; omega
  have hn2 : l2.length ≤ 8796093022208 := by unfold R47 at hb2; omega
  have H1 := hide (And.intro hr1 hx1)
  have H2 := hide (And.intro hr2 hx2)
  obtain ⟨d, hd⟩ : ∃ d, T.cmpM l1 l2 = d := ⟨_, rfl⟩
  rw [hd]
  have Hd := hide hd
  clear hr1 hx1 hr2 hx2 hb1 hb2 hd
  go_enter Tryz.func167, Tryz.ntmps167
  go_wp2_with fail
  go_loopw [5] (fun s W => FLI l1 l2 d w s W) (fun s _ => l1.length - (intOf s).toNat)
  case atStart => exact ⟨0, rfl, Nat.zero_le _, Nat.zero_le _, by simpa using Hd.out, Below.refl _ _⟩
  case round =>
    obtain ⟨k, rfl, hk1, hk2, hkd, hb⟩ := hrel
    have hki0 : (0 : Int) ≤ (k : Int) := Int.natCast_nonneg _
    by_cases e1 : k < l1.length
    · have hki1 : (k : Int) < (l1.length : Int) := by omega
      by_cases e2 : k < l2.length
      · have hki2 : (k : Int) < (l2.length : Int) := by omega
        rw [cmpM_step e1 e2] at hkd
        obtain ⟨g1, hc1, hs1, hv1⟩ := H1.out.2.at_ e1
        obtain ⟨g2, hc2, hs2, hv2⟩ := H2.out.2.at_ e2
        obtain ⟨b1, o1, rfl, hF1, hg1⟩ := rown_at H1.out.1 e1 hc1
        obtain ⟨b2, o2, rfl, hF2, hg2⟩ := rown_at H2.out.1 e2 hc2
        have p0 := hg1 0 _ rfl
        have p1 := hg1 1 _ rfl
        have q0 := hg2 0 _ rfl
        have q1 := hg2 1 _ rfl
        rw [← (bcell hb).1 _ _ hF1] at p0 p1
        rw [← (bcell hb).1 _ _ hF2] at q0 q1
        rw [Nat.add_zero] at p0 q0
        have hcmp := fun (W : World) (hb : Below w.heap.size w W) => compareV_calls (hv1.at_ hb) (hv2.at_ hb)
        generalize l1[k] = a at *
        generalize l2[k] = b at *
        obtain ⟨ka, ta⟩ := a
        obtain ⟨kb, tb⟩ := b
        simp only at p0 p1 q0 q1 hkd hcmp
        obtain ⟨x, hx⟩ : ∃ x, cmpS ka kb = x := ⟨_, rfl⟩
        obtain ⟨y, hy⟩ : ∃ y, T.cmp ta tb = y := ⟨_, rfl⟩
        rw [hx, hy] at hkd
        rw [hy] at hcmp
        have hsc := fun W => stringsCompare_same ka kb W
        rw [hx] at hsc
        have Hsc := hide hsc
        have Hcmp := hide hcmp
        have hl1 : b1 < w.heap.size := hF1
        have hl2 : b2 < w.heap.size := hF2
        have hsw := hb.size
        have Hb := hide hb
        clear hc1 hc2 hs1 hs2 hv1 hv2 hg1 hg2 hF1 hF2 hx hy hsc hcmp hb
        by_cases hx0 : x = 0
        · subst hx0
          rw [if_pos rfl] at hkd
          have Hkd := hide hkd
          clear hkd
          go_wp2_with fail
          go_quiet ((go_at_call 166; exact Calls.quiet_of_same (Hsc.out _)))
          go_wp2_with fail
          generalize hWW : wr.drewN _ = W2
          have hb2 : Below w.heap.size w W2 := by rw [← hWW]; exact below_drewN Hb.out _
          have r1 : W2.cell? ⟨b1, o1 + k * 2 + 1, none⟩ = some (.iface 249 (.pointer (some g1))) := by rw [← hWW]; exact p1
          have r2 : W2.cell? ⟨b2, o2 + k * 2 + 1, none⟩ = some (.iface 249 (.pointer (some g2))) := by rw [← hWW]; exact q1
          have hsz2 := hb2.size
          clear hWW p0 p1 q0 q1 Hb hsw
          have hS0 : FLS b1 o1 b2 o2 k (.iface 249 (.pointer (some g1))) (.iface 249 (.pointer (some g2))) W2.drew := ⟨r1, r2⟩
          obtain ⟨S, hS⟩ : ∃ S, FLS b1 o1 b2 o2 k (.iface 249 (.pointer (some g1))) (.iface 249 (.pointer (some g2))) = S := ⟨_, rfl⟩
          rw [hS] at hS0
          have Hk := hide (And.intro hb2 (And.intro r1 r2))
          clear hb2 r1 r2
          refine wp_region_head 11 S (by rfl) (by kernel_rfl) ?_
          refine HT.take 0 (v := ?_) rfl (by kernel_rfl) (fun _ _ _ h => h) (Or.inl ⟨by rfl, ?_⟩) (by assumption) ?_
          rotate_left
          · intro W hSw; rw [← hS] at hSw; obtain ⟨s0, s1⟩ := (show W.cell? ⟨b1, o1 + k * 2 + 1, none⟩ = some (.iface 249 (.pointer (some g1))) ∧ W.cell? ⟨b2, o2 + k * 2 + 1, none⟩ = some (.iface 249 (.pointer (some g2))) from hSw); go_simp; with_reducible rfl
          simp only [Act.put, List.setIfInBounds_toArray, List.set_cons_zero, List.set_cons_succ]
          refine HT.take 1 (v := ?_) rfl (by kernel_rfl) (fun _ _ _ h => h) (Or.inl ⟨by rfl, ?_⟩) (by assumption) ?_
          rotate_left
          · intro W hSw; rw [← hS] at hSw; obtain ⟨s0, s1⟩ := (show W.cell? ⟨b1, o1 + k * 2 + 1, none⟩ = some (.iface 249 (.pointer (some g1))) ∧ W.cell? ⟨b2, o2 + k * 2 + 1, none⟩ = some (.iface 249 (.pointer (some g2))) from hSw); go_simp; with_reducible rfl
          simp only [Act.put, List.setIfInBounds_toArray, List.set_cons_zero, List.set_cons_succ]
          refine HT.take 2 (v := ?_) rfl (by kernel_rfl) (fun _ _ _ h => h) (Or.inl ⟨by rfl, ?_⟩) (by assumption) ?_
          rotate_left
          · intro W hSw; rw [← hS] at hSw; obtain ⟨s0, s1⟩ := (show W.cell? ⟨b1, o1 + k * 2 + 1, none⟩ = some (.iface 249 (.pointer (some g1))) ∧ W.cell? ⟨b2, o2 + k * 2 + 1, none⟩ = some (.iface 249 (.pointer (some g2))) from hSw); go_simp; with_reducible rfl
          simp only [Act.put, List.setIfInBounds_toArray, List.set_cons_zero, List.set_cons_succ]
          refine HT.take 3 (v := ?_) rfl (by kernel_rfl) (fun _ _ _ h => h) (Or.inl ⟨by rfl, ?_⟩) (by assumption) ?_
          rotate_left
          · intro W hSw; rw [← hS] at hSw; obtain ⟨s0, s1⟩ := (show W.cell? ⟨b1, o1 + k * 2 + 1, none⟩ = some (.iface 249 (.pointer (some g1))) ∧ W.cell? ⟨b2, o2 + k * 2 + 1, none⟩ = some (.iface 249 (.pointer (some g2))) from hSw); go_simp; with_reducible rfl
          simp only [Act.put, List.setIfInBounds_toArray, List.set_cons_zero, List.set_cons_succ]
          refine HT.take 4 (v := ?_) rfl (by kernel_rfl) (fun _ _ _ h => h) (Or.inl ⟨by rfl, ?_⟩) (by assumption) ?_
          rotate_left
          · intro W hSw; rw [← hS] at hSw; obtain ⟨s0, s1⟩ := (show W.cell? ⟨b1, o1 + k * 2 + 1, none⟩ = some (.iface 249 (.pointer (some g1))) ∧ W.cell? ⟨b2, o2 + k * 2 + 1, none⟩ = some (.iface 249 (.pointer (some g2))) from hSw); go_simp; with_reducible rfl
          simp only [Act.put, List.setIfInBounds_toArray, List.set_cons_zero, List.set_cons_succ]
          refine HT.take 5 (v := ?_) rfl (by kernel_rfl) (fun _ _ _ h => h) (Or.inl ⟨by rfl, ?_⟩) (by assumption) ?_
          rotate_left
          · intro W hSw; rw [← hS] at hSw; obtain ⟨s0, s1⟩ := (show W.cell? ⟨b1, o1 + k * 2 + 1, none⟩ = some (.iface 249 (.pointer (some g1))) ∧ W.cell? ⟨b2, o2 + k * 2 + 1, none⟩ = some (.iface 249 (.pointer (some g2))) from hSw); go_simp; with_reducible rfl
          simp only [Act.put, List.setIfInBounds_toArray, List.set_cons_zero, List.set_cons_succ]
          refine HT.take 6 (v := ?_) rfl (by kernel_rfl) (fun _ _ _ h => h) (Or.inl ⟨by rfl, ?_⟩) (by assumption) ?_
          rotate_left
          · intro W hSw; rw [← hS] at hSw; obtain ⟨s0, s1⟩ := (show W.cell? ⟨b1, o1 + k * 2 + 1, none⟩ = some (.iface 249 (.pointer (some g1))) ∧ W.cell? ⟨b2, o2 + k * 2 + 1, none⟩ = some (.iface 249 (.pointer (some g2))) from hSw); go_simp; with_reducible rfl
          simp only [Act.put, List.setIfInBounds_toArray, List.set_cons_zero, List.set_cons_succ]
          refine HT.take 7 (v := ?_) rfl (by kernel_rfl) (fun _ _ _ h => h) (Or.inl ⟨by rfl, ?_⟩) (by assumption) ?_
          rotate_left
          · intro W hSw; rw [← hS] at hSw; obtain ⟨s0, s1⟩ := (show W.cell? ⟨b1, o1 + k * 2 + 1, none⟩ = some (.iface 249 (.pointer (some g1))) ∧ W.cell? ⟨b2, o2 + k * 2 + 1, none⟩ = some (.iface 249 (.pointer (some g2))) from hSw); go_simp; with_reducible rfl
          simp only [Act.put, List.setIfInBounds_toArray, List.set_cons_zero, List.set_cons_succ]
          refine HT.take 8 (v := ?_) rfl (by kernel_rfl) (fun _ _ _ h => h) (Or.inl ⟨by rfl, ?_⟩) (by assumption) ?_
          rotate_left
          · intro W hSw; rw [← hS] at hSw; obtain ⟨s0, s1⟩ := (show W.cell? ⟨b1, o1 + k * 2 + 1, none⟩ = some (.iface 249 (.pointer (some g1))) ∧ W.cell? ⟨b2, o2 + k * 2 + 1, none⟩ = some (.iface 249 (.pointer (some g2))) from hSw); go_simp; with_reducible rfl
          simp only [Act.put, List.setIfInBounds_toArray, List.set_cons_zero, List.set_cons_succ]
          refine HT.take 9 (v := ?_) rfl (by kernel_rfl) (fun _ _ _ h => h) (Or.inl ⟨by rfl, ?_⟩) (by assumption) ?_
          rotate_left
          · intro W hSw; rw [← hS] at hSw; obtain ⟨s0, s1⟩ := (show W.cell? ⟨b1, o1 + k * 2 + 1, none⟩ = some (.iface 249 (.pointer (some g1))) ∧ W.cell? ⟨b2, o2 + k * 2 + 1, none⟩ = some (.iface 249 (.pointer (some g2))) from hSw); go_simp; with_reducible rfl
          simp only [Act.put, List.setIfInBounds_toArray, List.set_cons_zero, List.set_cons_succ]
          refine HT.one 10 rfl (by kernel_rfl) (by rfl) (fun K hK => ?_)
          go_simp
          refine (Hcmp.out W2.drew (below_drew Hk.out.1)).mono ?_
          rintro e w9 ⟨rfl, hb9⟩
          have hb9' : Below W2.heap.size W2 w9 := below_drew' hb9
          have eb := (bcell hb9').1
          go_simp
          refine hK.out _ _ (by rw [← hS]; exact ⟨(eb _ _ (by omega)).trans Hk.out.2.1, (eb _ _ (by omega)).trans Hk.out.2.2⟩) ?_
          clear hK
          refine HT.done (by kernel_rfl) ?_
          simp only [List.drop_succ_cons, List.drop_zero]
          have Hbz := hide (Hk.out.1.trans (hb9'.mono Hk.out.1.size))
          clear hb9 hb9' hS0 hS Hk eb
          by_cases hy0 : y = 0
          · subst hy0
            have hkd := Hkd.out
            rw [if_pos rfl] at hkd
            have Hkd2 := hide hkd
            clear hkd Hkd
            go_wp2_with fail
            exact ⟨⟨k + 1, rfl, e1, e2, Hkd2.out, Hbz.out⟩, by simp [intOf]; omega⟩
          · have hkd := Hkd.out
            rw [if_neg hy0] at hkd
            have y1 : (y == 0) = false := by simpa using hy0
            have y2 : (y != 0) = true := by simpa using hy0
            have Hkd2 := hide hkd
            clear hkd Hkd
            go_wp2_with fail
            go_ret
            have hfin := Hkd2.out
            subst hfin
            exact ⟨rfl, Hbz.out⟩
        · rw [if_neg hx0] at hkd
          have x1 : (x == 0) = false := by simpa using hx0
          have x2 : (x != 0) = true := by simpa using hx0
          have Hkd := hide hkd
          clear hkd
          go_wp2_with fail
          go_quiet ((go_at_call 166; exact Calls.quiet_of_same (Hsc.out _)))
          go_wp2
          go_ret
          have hfin := Hkd.out
          subst hfin
          exact ⟨rfl, below_drewN Hb.out _⟩
      · have hke : k = l2.length := by omega
        have hki2 : ¬ (k : Int) < (l2.length : Int) := by omega
        have hki3 : (l2.length : Int) ≤ (k : Int) := by omega
        have hd1 : d = 1 := by
          rw [← hkd, show l2.drop k = [] from List.drop_of_length_le (by omega), List.drop_eq_getElem_cons e1, T.cmpM]
        subst hd1
        have Hb := hide hb
        clear hb hkd hke
        go_wp2
        go_ret
        exact ⟨rfl, Hb.out⟩
    · have hki1 : ¬ (k : Int) < (l1.length : Int) := by omega
      have hki3 : (l1.length : Int) ≤ (k : Int) := by omega
      by_cases e2 : k < l2.length
      · have hki2 : (k : Int) < (l2.length : Int) := by omega
        have hd1 : d = -1 := by
          rw [← hkd, show l1.drop k = [] from List.drop_of_length_le (by omega), List.drop_eq_getElem_cons e2, T.cmpM]
        subst hd1
        have Hb := hide hb
        clear hb hkd
        go_wp2
        go_ret
        exact ⟨rfl, Hb.out⟩
      · have hki2 : ¬ (k : Int) < (l2.length : Int) := by omega
        have hki4 : (l2.length : Int) ≤ (k : Int) := by omega
        have hd1 : d = 0 := by
          rw [← hkd, show l1.drop k = [] from List.drop_of_length_le (by omega), show l2.drop k = [] from List.drop_of_length_le (by omega), T.cmpM]
        subst hd1
        have Hb := hide hb
        clear hb hkd
        go_wp2
        go_ret
        exact ⟨rfl, Hb.out⟩

end Go.Proofs.YtajeghkjppkhcaaGreat

/-!
  impl.toKeys and impl.toElem: a step as the package holds it.
-/

namespace Go.Proofs.YtajeghkjppkhcaaGreat
open Go.RowKit
attribute [local go_sem] run_store_float

theorem zipK_zero (keys : List ByteArray) (l : List RV) : zipK keys l 0 = [] := by simp [zipK]
theorem zipK_length (keys : List ByteArray) (l : List RV) (k : Nat) : (zipK keys l k).length = min k (min keys.length l.length) := by simp [zipK]
theorem zipK_succ (keys : List ByteArray) (l : List RV) (k : Nat) (h1 : k < keys.length) (h2 : k < l.length) : zipK keys l (k + 1) = zipK keys l k ++ [(keys[k], l[k].tree)] := by
  unfold zipK
  rw [List.take_succ_eq_append_getElem (by simp; omega)]
  simp
theorem zipK_stay (keys : List ByteArray) (l : List RV) (k : Nat) (h2 : l.length ≤ k) : zipK keys l (k + 1) = zipK keys l k := by
  unfold zipK
  rw [List.take_of_length_le (by simp; omega), List.take_of_length_le (by simp; omega)]
theorem zipK_all (keys : List ByteArray) (l : List RV) : zipK keys l keys.length = keys.zip (l.map RV.tree) := by
  unfold zipK
  rw [List.take_of_length_le (by simp; omega)]

set_option maxRecDepth 100000 in
set_option maxHeartbeats 2000000 in
theorem toKeys_calls (r : REl) (w : World) (cs : List Value) (h : ElemAt (Old w) w r cs) : Calls Tryz.prog 110 #[.agg cs.toArray] w (GivesFL (r.keys.zip (r.l.map RV.tree)) w) := by
  obtain ⟨i234, hi, hz, hs, hby⟩ := info_parts field_info
  cases h with
  | @mk kind n s keys l v KA LA kc lc v0 v1 v2 v3 vA vB vn vc vm vd h1 h2 h3 h4 h5 =>
  simp only
  rw [← zipK_all]
  cases h3 with
  | @mk _ _ _ _ _ _ _ _ _ _ xs g1 g2 g3 g4 g5 g6 g7 g8 g9 g10 g11 hK hL hx =>
  have hkl : keys.length ≤ 8796093022208 := by unfold R47 at g6; omega
  have hll : l.length * 88 ≤ 140737488351232 := g7
  have HK := hide hK
  have HL := hide hL
  have HX := hide hx
  have H5 := hide g5
  clear h1 h2 h4 h5 g1 g2 g3 g4 g5 g6 g7 g8 g9 g10 g11 hK hL hx
  go_enter Tryz.func110, Tryz.ntmps110
  go_wp2_with fail
  have hbox := (Bk.new w 33 #[.int .i64 kind, .string s, .slice KA keys.length kc, .slice LA l.length lc, .int .i64 v0, .int .i64 v1, .float .f64 v2, .string v3, .slice vA vn vc, .slice vB vm vd, .int .i64 n]).alloc (.cells #[] 239)
  have hb0 : Below w.heap.size w ((w.alloc (.cells #[.int .i64 kind, .string s, .slice KA keys.length kc, .slice LA l.length lc, .int .i64 v0, .int .i64 v1, .float .f64 v2, .string v3, .slice vA vn vc, .slice vB vm vd, .int .i64 n] 33)).alloc (.cells #[] 239)) := below_two _ _ _
  have hown0 := World.ownsRow_lit (base := w.heap.size + 1) (e := 239) (size := 2) (w.alloc (.cells #[.int .i64 kind, .string s, .slice KA keys.length kc, .slice LA l.length lc, .int .i64 v0, .int .i64 v1, .float .f64 v2, .string v3, .slice vA vn vc, .slice vB vm vd, .int .i64 n] 33)) #[] 0 (by simp) (by simp [maxLen]) (by simp)
  rw [World.size_alloc] at hown0
  have hz0 : w.heap.size + 1 ≤ ((w.alloc (.cells #[.int .i64 kind, .string s, .slice KA keys.length kc, .slice LA l.length lc, .int .i64 v0, .int .i64 v1, .float .f64 v2, .string v3, .slice vA vn vc, .slice vB vm vd, .int .i64 n] 33)).alloc (.cells #[] 239)).heap.size := by simp
  have H0 := hide (And.intro hbox (And.intro hb0 (And.intro hown0 hz0)))
  clear hbox hb0 hown0 hz0
  go_loopw [3, 10] (fun out ctr wr => TKInv w keys l (w.heap.size + 1) out ctr wr ∧ Bk wr w.heap.size 33 #[.int .i64 kind, .string s, .slice KA keys.length kc, .slice LA l.length lc, .int .i64 v0, .int .i64 v1, .float .f64 v2, .string v3, .slice vA vn vc, .slice vB vm vd, .int .i64 n]) (fun _ ctr _ => keys.length - (intOf ctr).toNat)
  case atStart => exact ⟨⟨0, [], Nat.zero_le _, rfl, by rw [zipK_zero]; exact H0.out.2.2.1, by rw [zipK_zero]; exact Cells.nil_, H0.out.2.1, H0.out.2.2.2⟩, H0.out.1⟩
  case round =>
    obtain ⟨⟨k, us, hk, rfl, hown, hus, hb, hB⟩, hbx⟩ := hrel
    have hzl := zipK_length keys l k
    have hlt0 := hown.lt
    by_cases hlt : k < keys.length
    · obtain ⟨b, o, rfl, hF, hkc⟩ := row1_at (u := .string keys[k]) HK.out hlt (by simp [hlt])
      rw [← (bcell hb).1 _ _ hF] at hkc
      have hk47 := H5.out _ (List.getElem_mem hlt)
      have q3 := hbx.cell 3
      simp at q3
      have hki0 : (0 : Int) ≤ (k : Int) := Int.natCast_nonneg _
      have hki1 : (k : Int) < (keys.length : Int) := by omega
      by_cases hl' : k < l.length
      · have hsn := zipK_succ keys l k hlt hl'
        generalize keys[k] = key at hsn hkc hk47
        have hgk : l[k]? = some l[k] := List.getElem?_eq_getElem hl'
        have hv := HX.out k _ hgk
        generalize l[k] = rv at hsn hv
        generalize hcs : (xs.drop (k * 6)).take 6 = vcs at hv
        obtain ⟨x0, x1, x2, x3, xA, xn, xc, yA, yn, yc, rfl⟩ := hv.form
        obtain ⟨b', o', rfl, hF', k0, k1, k2, k3, k4, k5⟩ := row6_at HL.out hl' hcs
        rw [← (bcell hb).1 _ _ hF'] at k0 k1 k2 k3 k4 k5
        have Hv := hide (toValue_calls rv wr _ (hv.at_ hb))
        have hki2 : (k : Int) < (l.length : Int) := by omega
        have Hst := fun w1 w2 g out' o2 => hide (fun hvv hb1 hown2 hg2 hat => tk_step (w1 := w1) (w2 := w2) (g := g) (out' := out') (o2 := o2) (key := key) (t := rv.tree) (Nat.le_succ _) hown hus hb hB hk47 hvv hb1 hown2 hg2 hat)
        obtain ⟨oA, oc, rfl, _, _⟩ := own_form hown
        have Hown := hide (And.intro hown (And.intro hbx hB))
        have Hsn := hide hsn
        have hn32 : (zipK keys l k).length + 1 ≤ 8796093022208 := by omega
        have hn33 : ((zipK keys l k).length + 1) * 32 ≤ 140737488355328 := by omega
        have hwl : w.heap.size < wr.heap.size := hbx.lt
        obtain ⟨m, hm⟩ : ∃ m, (zipK keys l k).length = m := ⟨_, rfl⟩
        rw [hm] at Hown Hst hn32 hn33 ⊢
        have Hm := hide hm
        clear hm hown hus hb hbx hsn hzl hlt0 hF hF' hv hcs hgk hk
        go_wp2_with fail
        refine Hv.out.mono ?_
        rintro e w1 ⟨v, rfl, ⟨g, u, rfl, hgF, hBu, hu⟩, hb1⟩
        have Hvv := hide (And.intro (show ValAt (Fr wr.heap.size w1) w1 rv.tree (.iface 249 (.pointer (some ⟨g, 0, none⟩))) from ⟨g, u, rfl, hgF, hBu, hu⟩) hb1)
        have hs1 := hb1.size
        clear hBu hu hgF hb1
        go_wp2_with (at_builtin; refine wpList_append_own_at _ rfl (.tmp 20) (.tmp 29) 169 rfl (w.heap.size + 1) 239 i234 _ 2 32 Tryz.underlying169 hi hz hs hby rfl (by omega) _ m us rfl ((ownsRow_below Hown.out.1 Hvv.out.2 (Nat.le_refl _)).alloc _) ⟨w1.heap.size, 0, none⟩ 1 1 [.string key, .iface 249 (.pointer (some ⟨g, 0, none⟩))] rfl rfl (cells_at _ [.string key, .iface 249 (.pointer (some ⟨g, 0, none⟩))] _ _ rfl) ?c1 ?c2 ?c3 ?c4 ?_)
        case c1 => simp [Value.oneCell']
        case c2 => unfold maxLen; omega
        case c3 => exact hn33
        case c4 => have := Hown.out.2.2; simp only [World.size_alloc]; omega
        intro out' w2 hown2 hg2 _ hat2
        have hbx2 : Bk w2 w.heap.size 33 #[.int .i64 kind, .string s, .slice (some ⟨b, o, none⟩) keys.length kc, .slice (some ⟨b', o', none⟩) l.length lc, .int .i64 v0, .int .i64 v1, .float .f64 v2, .string v3, .slice vA vn vc, .slice vB vm vd, .int .i64 n] := ((Hown.out.2.1.below Hvv.out.2 hwl).alloc _).grown hg2 (fun e => by have := (Hown.out.1.lt _ e.symm).1; omega)
        have Hfin := hide (And.intro ((Hst w1 w2 _ out' _).out Hvv.out.1 Hvv.out.2 hown2 hg2 (by rw [World.size_alloc]; exact hat2)) (And.intro hown2 hbx2))
        obtain ⟨nA, nc, rfl, _, _⟩ := own_form hown2
        clear Hst hown2 hg2 hat2 hbx2 Hown Hvv q3 hkc k0 k1 k2 k3 k4 k5
        go_wp2_with fail
        refine ⟨⟨⟨k + 1, us ++ [.string key, .iface 249 (.pointer (some ⟨g, 0, none⟩))], hlt, rfl, ?_, ?_, Hfin.out.1.2⟩, Hfin.out.2.2⟩, by simp [intOf]; omega⟩
        · rw [Hsn.out, List.length_append, Hm.out]
          exact Hfin.out.2.1
        · rw [Hsn.out]
          exact Hfin.out.1.1
      · have hst := zipK_stay keys l k (by omega)
        have Hfin := hide (And.intro hown (And.intro hus (And.intro hb (And.intro hB (And.intro hbx hst)))))
        have hki2 : ¬ (k : Int) < (l.length : Int) := by omega
        obtain ⟨A, c, rfl, hc1, hc2⟩ := own_form hown
        obtain ⟨m, hm⟩ : ∃ m, (zipK keys l k).length = m := ⟨_, rfl⟩
        rw [hm] at Hfin ⊢
        have Hm := hide hm
        clear hown hus hb hB hbx hst hzl hlt0 hm hF hc1
        go_wp2_with fail
        refine ⟨⟨⟨k + 1, us, hlt, rfl, ?_, ?_, Hfin.out.2.2.1, Hfin.out.2.2.2.1⟩, Hfin.out.2.2.2.2.1⟩, by simp [intOf]; omega⟩
        · rw [Hfin.out.2.2.2.2.2, Hm.out]
          exact Hfin.out.1
        · rw [Hfin.out.2.2.2.2.2]
          exact Hfin.out.2.1
    · have hke : k = keys.length := by omega
      subst hke
      have Hfin := hide (And.intro hown (And.intro hus hb))
      have Hz := hide hzl
      obtain ⟨A, c, rfl, hc1, hc2⟩ := own_form hown
      clear hown hus hb hbx hB hlt0 hzl
      go_wp2
      go_ret
      have hlt := Hfin.out.1.lt
      refine ⟨A, c, rfl, ⟨hc1, hc2, by have := Hz.out; unfold R47; omega, us, Row.of_own Hfin.out.1 fun g hg => ?_, Hfin.out.2.1.mono fun a cs h => h.mono fun b hb => ?_⟩, Hfin.out.2.2⟩
      · have := hlt g hg
        exact ⟨by omega, this.2⟩
      · exact ⟨by have := hb.1; omega, hb.2.1⟩

def set4 (w : World) (g : Nat) (a b c d : Value) : World := (((w.setCell ⟨g, 0, none⟩ a).setCell ⟨g, 1, none⟩ b).setCell ⟨g, 2, none⟩ c).setCell ⟨g, 3, none⟩ d
theorem set4_same {w : World} {g : Nat} {t : TypeId} {a0 a1 a2 a3 : Value} (a b c d : Value) (h : Bk w g t #[a0, a1, a2, a3]) : Bk (set4 w g a b c d) g t #[a, b, c, d] := by
  have := (((h.set_ 0 a).set_ 1 b).set_ 2 c).set_ 3 d
  simpa [set4] using this
theorem set4_heap (w : World) (g : Nat) (a b c d : Value) (x : Nat) (h : x ≠ g) : (set4 w g a b c d).heap[x]? = w.heap[x]? := by
  unfold set4
  rw [Below.heap_setCell _ _ _ _ h, Below.heap_setCell _ _ _ _ h, Below.heap_setCell _ _ _ _ h, Below.heap_setCell _ _ _ _ h]
theorem set4_size (w : World) (g : Nat) (a b c d : Value) : (set4 w g a b c d).heap.size = w.heap.size := by simp [set4]
theorem set4_below {a w : World} {B g : Nat} (c0 c1 c2 c3 : Value) (h : Below B a w) (hB : B ≤ g) : Below B a (set4 w g c0 c1 c2 c3) := (((h.setCell hB _).setCell hB _).setCell hB _).setCell hB _

/-- a step handed back from the cell behind the argument's -/
theorem pe_ret {fn : Func} {p : Tmp} (hfn : fn.results = #[.cell p 96]) (tmps : Array Value) {w w1 : World} {e : E} {p0 p1 p2 p3 a0 a1 a2 a3 : Value} (hR : Bk w1 (w.heap.size + 1) 96 #[a0, a1, a2, a3]) (hb : Below w.heap.size w w1)
    (hv : PEAt (fun b => w.heap.size + 2 ≤ b ∧ b < w1.heap.size) w1 e [p0, p1, p2, p3]) (hp : tmps.getD p undef = .pointer (some ⟨w.heap.size + 1, 0, none⟩)) :
    bodyPost Tryz.prog fn (GivesPE e w) .ret { tmps := tmps, defers := [] } (set4 w1 (w.heap.size + 1) p0 p1 p2 p3) := by
  refine bodyPost_ret (results_cell_row hfn _ _ (w.heap.size + 1) 96 #[p0, p1, p2, p3] (0, 0) _ hp (set4_same _ _ _ _ hR) Tryz.underlying96 rfl (by kernel_rfl)) rfl ?_
  exact ⟨_, rfl, (hv.keeps fun b hb => set4_heap _ _ _ _ _ _ _ (by have := hb.1; omega)).mono fun b hb => ⟨by have := hb.1; omega, by rw [set4_size]; exact hb.2⟩, set4_below _ _ _ _ hb (by omega)⟩

set_option maxRecDepth 100000 in
set_option maxHeartbeats 2000000 in
theorem toElem_calls (r : REl) (w : World) (cs : List Value) (h : ElemAt (Old w) w r cs) : Calls Tryz.prog 62 #[.agg cs.toArray] w (GivesPE r.elem w) := by
  have HK := hide fun (W : World) (hb : Below w.heap.size w W) => toKeys_calls r W cs (h.at_ hb)
  cases h with
  | @mk kind n s keys l v KA LA kc lc v0 v1 v2 v3 vA vB vn vc vm vd h1 h2 h3 h4 h5 =>
  have HV := hide fun (W : World) (hb : Below w.heap.size w W) => toValue_calls v W _ (h4.at_ hb)
  have H := hide (And.intro h2 h5)
  clear h1 h2 h3 h4 h5
  have hb0 := below_two w (.cells #[.int .i64 kind, .string s, .slice KA keys.length kc, .slice LA l.length lc, .int .i64 v0, .int .i64 v1, .float .f64 v2, .string v3, .slice vA vn vc, .slice vB vm vd, .int .i64 n] 33) (.cells #[.pointer none, .pointer none, .pointer none, .pointer none] 96)
  have hbx := (Bk.new w 33 #[.int .i64 kind, .string s, .slice KA keys.length kc, .slice LA l.length lc, .int .i64 v0, .int .i64 v1, .float .f64 v2, .string v3, .slice vA vn vc, .slice vB vm vd, .int .i64 n]).alloc (.cells #[.pointer none, .pointer none, .pointer none, .pointer none] 96)
  have hR := Bk.new (w.alloc (.cells #[.int .i64 kind, .string s, .slice KA keys.length kc, .slice LA l.length lc, .int .i64 v0, .int .i64 v1, .float .f64 v2, .string v3, .slice vA vn vc, .slice vB vm vd, .int .i64 n] 33)) 96 #[.pointer none, .pointer none, .pointer none, .pointer none]
  rw [World.size_alloc] at hR
  have H0 := hide (And.intro hb0 (And.intro hbx hR))
  clear hb0 hbx hR
  by_cases k1 : kind = 1
  · subst k1
    have he : REl.elem ⟨1, s, keys, l, v, n⟩ = .key (keys.zip (l.map RV.tree)) := by simp [REl.elem]
    rw [he]
    generalize keys.zip (l.map RV.tree) = L at *
    clear he
    go_enter Tryz.func62, Tryz.ntmps62
    go_wp2_with fail
    refine (HK.out _ H0.out.1).mono ?_
    rintro e w1 ⟨A, c, rfl, hfl, hb1⟩
    have hw1 := H0.out.1.size
    have hs1 := hb1.size
    have hbw := H0.out.1.trans (hb1.mono H0.out.1.size)
    have hR1 := H0.out.2.2.below hb1 H0.out.2.2.lt
    have hl1 := hR1.lt
    have hl0 := H0.out.2.2.lt
    have Hx := hide (And.intro hfl (And.intro hbw hR1))
    clear hfl hb1 hbw hR1
    go_upto_region 4 with fail
    have hg := Bk.new w1 169 #[.slice A L.length c]
    have hR2 := Hx.out.2.2.alloc (.cells #[.slice A L.length c] 169)
    have hb2 := Hx.out.2.1.alloc (Nat.le_trans H0.out.1.size hs1) (.cells #[.slice A L.length c] 169)
    have hv2 : PEAt (fun b => w.heap.size + 2 ≤ b ∧ b < (w1.alloc (.cells #[.slice A L.length c] 169)).heap.size) (w1.alloc (.cells #[.slice A L.length c] 169)) (.key L) [.pointer none, .pointer (some ⟨w1.heap.size, 0, none⟩), .pointer none, .pointer none] :=
      .key ⟨by omega, by simp⟩ hg ((Hx.out.1.keeps (Keeps.alloc _ _ fun b hb => hb.2)).mono fun b hb => ⟨by have := hb.1; omega, by have := hb.2; simp; omega⟩)
    generalize World.alloc _ _ = w2 at hR2 hb2 hv2 hg ⊢
    obtain ⟨p0, p1, p2, p3⟩ : w2.cell? ⟨w.heap.size + 1, 0, none⟩ = some (.pointer none) ∧ w2.cell? ⟨w.heap.size + 1, 1, none⟩ = some (.pointer none) ∧ w2.cell? ⟨w.heap.size + 1, 2, none⟩ = some (.pointer none) ∧ w2.cell? ⟨w.heap.size + 1, 3, none⟩ = some (.pointer none) := ⟨hR2.cell 0, hR2.cell 1, hR2.cell 2, hR2.cell 3⟩
    have fz : ∀ i, w2.frozen? ⟨w.heap.size + 1, i, none⟩ = false := fun i => hR2.free i
    have Hf := hide (And.intro hR2 (And.intro hb2 hv2))
    clear hR2 hb2 hv2 hg
    go_wp2
    exact pe_ret rfl _ Hf.out.1 Hf.out.2.1 Hf.out.2.2 rfl
  have e1 : (kind == 1) = false := by simpa using k1
  by_cases k2 : kind = 2
  · subst k2
    have he : REl.elem ⟨2, s, keys, l, v, n⟩ = .val v.tree := by simp [REl.elem]
    rw [he]
    generalize v.tree = t at *
    clear he
    go_enter Tryz.func62, Tryz.ntmps62
    go_wp2_with fail
    refine (HV.out _ H0.out.1).mono ?_
    rintro e w1 ⟨u, rfl, ⟨g, uu, rfl, hgF, hB, hu⟩, hb1⟩
    have hval : ValAt (Fr _ w1) w1 t (.iface 249 (.pointer (some ⟨g, 0, none⟩))) := ⟨g, uu, rfl, hgF, hB, hu⟩
    have hw1 := H0.out.1.size
    have hs1 := hb1.size
    have hbw := H0.out.1.trans (hb1.mono H0.out.1.size)
    have hR1 := H0.out.2.2.below hb1 H0.out.2.2.lt
    have hl1 := hR1.lt
    have hl0 := H0.out.2.2.lt
    have Hx := hide (And.intro hval (And.intro hbw hR1))
    clear hval hgF hB hu hb1 hbw hR1
    go_upto_region 7 with fail
    have hg := Bk.new w1 99 #[.iface 249 (.pointer (some ⟨g, 0, none⟩))]
    have hR2 := Hx.out.2.2.alloc (.cells #[.iface 249 (.pointer (some ⟨g, 0, none⟩))] 99)
    have hb2 := Hx.out.2.1.alloc (Nat.le_trans H0.out.1.size hs1) (.cells #[.iface 249 (.pointer (some ⟨g, 0, none⟩))] 99)
    have hv2 : PEAt (fun b => w.heap.size + 2 ≤ b ∧ b < (w1.alloc (.cells #[.iface 249 (.pointer (some ⟨g, 0, none⟩))] 99)).heap.size) (w1.alloc (.cells #[.iface 249 (.pointer (some ⟨g, 0, none⟩))] 99)) (.val t) [.pointer none, .pointer none, .pointer (some ⟨w1.heap.size, 0, none⟩), .pointer none] :=
      .val ⟨by omega, by simp⟩ hg ((Hx.out.1.keeps (Keeps.alloc _ _ fun b hb => hb.2)).mono fun b hb => ⟨by have := hb.1; omega, by have := hb.2; simp; omega⟩)
    generalize World.alloc _ _ = w2 at hR2 hb2 hv2 hg ⊢
    obtain ⟨p0, p1, p2, p3⟩ : w2.cell? ⟨w.heap.size + 1, 0, none⟩ = some (.pointer none) ∧ w2.cell? ⟨w.heap.size + 1, 1, none⟩ = some (.pointer none) ∧ w2.cell? ⟨w.heap.size + 1, 2, none⟩ = some (.pointer none) ∧ w2.cell? ⟨w.heap.size + 1, 3, none⟩ = some (.pointer none) := ⟨hR2.cell 0, hR2.cell 1, hR2.cell 2, hR2.cell 3⟩
    have fz : ∀ i, w2.frozen? ⟨w.heap.size + 1, i, none⟩ = false := fun i => hR2.free i
    have Hf := hide (And.intro hR2 (And.intro hb2 hv2))
    clear hR2 hb2 hv2 hg
    go_wp2
    exact pe_ret rfl _ Hf.out.1 Hf.out.2.1 Hf.out.2.2 rfl
  have e2 : (kind == 2) = false := by simpa using k2
  by_cases k3 : kind = 3
  · subst k3
    have he : REl.elem ⟨3, s, keys, l, v, n⟩ = .idx n := by simp [REl.elem]
    rw [he]
    clear he
    go_enter Tryz.func62, Tryz.ntmps62
    go_upto_region 10 with fail
    have hb0 := H0.out.1
    have hR0 := H0.out.2.2
    have hs0 := hb0.size
    have hl0 := hR0.lt
    have hz1 : ((w.alloc (.cells #[.int .i64 3, .string s, .slice KA keys.length kc, .slice LA l.length lc, .int .i64 v0, .int .i64 v1, .float .f64 v2, .string v3, .slice vA vn vc, .slice vB vm vd, .int .i64 n] 33)).alloc (.cells #[.pointer none, .pointer none, .pointer none, .pointer none] 96)).heap.size = w.heap.size + 1 + 1 := by simp
    generalize World.alloc (World.alloc w _) _ = w1 at hb0 hR0 hs0 hl0 hz1 ⊢
    clear H0
    have hR2 := hR0.alloc (.cells #[.int .i64 n] 3)
    have hg := Bk.new w1 3 #[.int .i64 n]
    have hb2 := hb0.alloc (by omega) (.cells #[.int .i64 n] 3)
    have hv2 : PEAt (fun b => w.heap.size + 2 ≤ b ∧ b < (w1.alloc (.cells #[.int .i64 n] 3)).heap.size) (w1.alloc (.cells #[.int .i64 n] 3)) (.idx n) [.pointer none, .pointer none, .pointer none, .pointer (some ⟨w1.heap.size, 0, none⟩)] :=
      .idx H.out.2 ⟨by omega, by simp⟩ hg
    rw [hz1] at hv2
    generalize World.alloc _ _ = w2 at hR2 hb2 hv2 hg ⊢
    obtain ⟨p0, p1, p2, p3⟩ : w2.cell? ⟨w.heap.size + 1, 0, none⟩ = some (.pointer none) ∧ w2.cell? ⟨w.heap.size + 1, 1, none⟩ = some (.pointer none) ∧ w2.cell? ⟨w.heap.size + 1, 2, none⟩ = some (.pointer none) ∧ w2.cell? ⟨w.heap.size + 1, 3, none⟩ = some (.pointer none) := ⟨hR2.cell 0, hR2.cell 1, hR2.cell 2, hR2.cell 3⟩
    have fz : ∀ i, w2.frozen? ⟨w.heap.size + 1, i, none⟩ = false := fun i => hR2.free i
    have Hf := hide (And.intro hR2 (And.intro hb2 hv2))
    clear hR2 hb2 hv2 hg hR0 hb0 hz1
    go_wp2
    exact pe_ret rfl _ Hf.out.1 Hf.out.2.1 Hf.out.2.2 rfl
  have e3 : (kind == 3) = false := by simpa using k3
  have he : REl.elem ⟨kind, s, keys, l, v, n⟩ = .field s := by simp [REl.elem, k1, k2, k3]
  rw [he]
  clear he k1 k2 k3
  go_enter Tryz.func62, Tryz.ntmps62
  go_upto_region 12 with fail
  have hb0 := H0.out.1
  have hR0 := H0.out.2.2
  have hs0 := hb0.size
  have hl0 := hR0.lt
  have hz1 : ((w.alloc (.cells #[.int .i64 kind, .string s, .slice KA keys.length kc, .slice LA l.length lc, .int .i64 v0, .int .i64 v1, .float .f64 v2, .string v3, .slice vA vn vc, .slice vB vm vd, .int .i64 n] 33)).alloc (.cells #[.pointer none, .pointer none, .pointer none, .pointer none] 96)).heap.size = w.heap.size + 1 + 1 := by simp
  generalize World.alloc (World.alloc w _) _ = w1 at hb0 hR0 hs0 hl0 hz1 ⊢
  clear H0
  have hR2 := hR0.alloc (.cells #[.string s] 9)
  have hg := Bk.new w1 9 #[.string s]
  have hb2 := hb0.alloc (by omega) (.cells #[.string s] 9)
  have hv2 : PEAt (fun b => w.heap.size + 2 ≤ b ∧ b < (w1.alloc (.cells #[.string s] 9)).heap.size) (w1.alloc (.cells #[.string s] 9)) (.field s) [.pointer (some ⟨w1.heap.size, 0, none⟩), .pointer none, .pointer none, .pointer none] :=
    .field H.out.1 ⟨by omega, by simp⟩ hg
  rw [hz1] at hv2
  generalize World.alloc _ _ = w2 at hR2 hb2 hv2 hg ⊢
  obtain ⟨p0, p1, p2, p3⟩ : w2.cell? ⟨w.heap.size + 1, 0, none⟩ = some (.pointer none) ∧ w2.cell? ⟨w.heap.size + 1, 1, none⟩ = some (.pointer none) ∧ w2.cell? ⟨w.heap.size + 1, 2, none⟩ = some (.pointer none) ∧ w2.cell? ⟨w.heap.size + 1, 3, none⟩ = some (.pointer none) := ⟨hR2.cell 0, hR2.cell 1, hR2.cell 2, hR2.cell 3⟩
  have fz : ∀ i, w2.frozen? ⟨w.heap.size + 1, i, none⟩ = false := fun i => hR2.free i
  have Hf := hide (And.intro hR2 (And.intro hb2 hv2))
  clear hR2 hb2 hv2 hg hR0 hb0 hz1
  go_wp2
  exact pe_ret rfl _ Hf.out.1 Hf.out.2.1 Hf.out.2.2 rfl

end Go.Proofs.YtajeghkjppkhcaaGreat
