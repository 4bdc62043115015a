/-
  slices.BinarySearchFunc at rows that are sorted by their steps. Printed by gensearch.py.
-/
import Derived.Test.YtajeghkjppkhcaaGreatPathA
import Derived.Test.YtajeghkjppkhcaaGreatElemCI
import Derived.StillTailTactics
set_option linter.unusedVariables false
set_option linter.unusedSimpArgs false
namespace Go.Proofs.YtajeghkjppkhcaaGreat
open Go.RowKit
attribute [local go_sem] run_store_float

/-- where a step would stand, and whether one that equals it stands there -/
def SearchPost (l : List E) (e : E) (w : World) (en : Ending) (w' : World) : Prop := en = .returned (.tuple #[.int .i64 ((cntC E.cmp e l : Nat) : Int), .bool (hasC E.cmp e l)]) ∧ Below w.heap.size w w'
/-- at the head of a round of the search -/
def BSInv (w : World) (n cnt : Nat) (ts : Array Value) (s9 s10 : Value) (W : World) : Prop := ∃ i j : Nat, s9 = .int .i64 (i : Int) ∧ s10 = .int .i64 (j : Int) ∧ i ≤ cnt ∧ cnt ≤ j ∧ j ≤ n ∧ Bk W w.heap.size 96 ts ∧ Below w.heap.size w W

set_option maxRecDepth 100000 in
set_option maxHeartbeats 4000000 in
theorem searchE_calls {f : FuncId} (hcf : ∀ args W, (callFunc f args).run Tryz.prog W = .ok (.enter f args) W) {Q : World → E → List Value → Prop} {l : List E} {A : Option Addr} {c : Nat} {w : World} {xs : List Value} {e : E} {t0 t1 t2 t3 : Value} (hl47 : l.length * 32 ≤ R47) (hr : Row (Old w) w 4 A l.length xs) (hx : Cells 4 (Q w) l xs)
    (hQ : ∀ W a cs, Below w.heap.size w W → Q w a cs → Q W a cs) (hQl : ∀ W a cs, Q W a cs → cs.length = 4) (hok : POk l) (he : e.Ok) (hs : SortC E.cmp l)
    (hF : ∀ (a : E) (cs : List Value) (W : World), Below w.heap.size w W → Q W a cs → Calls Tryz.prog f #[.agg cs.toArray, .agg #[t0, t1, t2, t3]] W (CmpPost (E.cmp a e) W)) :
    Calls Tryz.prog 151 #[.slice A l.length c, .agg #[t0, t1, t2, t3], .func (.func f) #[] #[]] w (SearchPost l e w) := by
  have hl47' : l.length * 32 ≤ 140737488351232 := hl47
  have hcl := cntC_le (c := E.cmp) e l
  have Hcl := hide (cntC_lt E.ord_ he hok hs)
  have H7 := hide (And.intro hr hx)
  have HQ := hide (And.intro hQ hQl)
  have HF := hide hF
  have Hhas := hide (show hasC E.cmp e l = (match l[cntC E.cmp e l]? with | some a => decide (E.cmp a e = 0) | none => false) from by unfold hasC; cases l[cntC E.cmp e l]? <;> rfl)
  unfold SearchPost
  generalize hasC E.cmp e l = has at *
  generalize cntC E.cmp e l = cnt at *
  clear hl47 hr hx hQ hQl hok he hs hF
  go_enter Tryz.func151, Tryz.ntmps151
  go_wp2_with fail
  have hB0 := Bk.new w 96 #[t0, t1, t2, t3]
  have hb0 : Below w.heap.size w (w.alloc (.cells #[t0, t1, t2, t3] 96)) := (Below.refl _ _).alloc (Nat.le_refl _) _
  have H0 := hide (And.intro hB0 hb0)
  clear hB0 hb0
  go_loopw [9, 10] (fun s9 s10 W => BSInv w l.length cnt #[t0, t1, t2, t3] s9 s10 W) (fun s9 s10 _ => (intOf s10).toNat - (intOf s9).toNat)
  case atStart => exact ⟨0, l.length, rfl, rfl, Nat.zero_le _, hcl, Nat.le_refl _, H0.out.1, H0.out.2⟩
  case round =>
    obtain ⟨i, j, rfl, rfl, hi, hj, hjn, hB, hb⟩ := hrel
    have hi0 : (0 : Int) ≤ (i : Int) := Int.natCast_nonneg _
    have hj0 : (0 : Int) ≤ (j : Int) := Int.natCast_nonneg _
    have ec := (bcell hb).1
    have p0 := hB.cell 0
    have p1 := hB.cell 1
    have p2 := hB.cell 2
    have p3 := hB.cell 3
    simp at p0 p1 p2 p3
    have hgl := hB.lt
    by_cases hlt : i < j
    · have hlti : (i : Int) < (j : Int) := by omega
      obtain ⟨h, hh⟩ : ∃ h, (i + j) / 2 = h := ⟨_, rfl⟩
      have hh1 : i ≤ h := by omega
      have hh2 : h < j := by omega
      have hhl : h < l.length := by omega
      have eh : ((i : Int) + (j : Int)) / 2 = (h : Int) := by omega
      have hhi0 : (0 : Int) ≤ (h : Int) := Int.natCast_nonneg _
      have hhi1 : (h : Int) < (l.length : Int) := by omega
      have hlh : l[h]? = some l[h] := List.getElem?_eq_getElem hhl
      have hx := H7.out.2.at_ hhl
      have hcm := Hcl.out h _ hlh
      generalize l[h] = a at *
      generalize hcs : (xs.drop (h * 4)).take 4 = fcs at hx
      obtain ⟨c0, c1, c2, c3, rfl⟩ : ∃ c0 c1 c2 c3, fcs = [c0, c1, c2, c3] := by
        have hlen := HQ.out.2 _ _ _ hx
        match fcs, hlen with
        | [c0, c1, c2, c3], _ => exact ⟨c0, c1, c2, c3, rfl⟩
      obtain ⟨rb, ro, rfl, hF, hc⟩ := rown_at H7.out.1 hhl hcs
      have m0 := (ec _ _ hF).trans (hc 0 _ rfl)
      have m1 := (ec _ _ hF).trans (hc 1 _ rfl)
      have m2 := (ec _ _ hF).trans (hc 2 _ rfl)
      have m3 := (ec _ _ hF).trans (hc 3 _ rfl)
      rw [Nat.add_zero] at m0
      have hx' := HQ.out.1 wr.drew _ _ (below_drew hb) hx
      have HC := hide (HF.out a _ wr.drew (below_drew hb) hx')
      obtain ⟨v, hv⟩ : ∃ v, E.cmp a e = v := ⟨_, rfl⟩
      rw [hv] at HC hcm
      have Hcm := hide hcm
      have Hb := hide (And.intro hB hb)
      clear hB hb hx hx' hcs hc ec hF hlh hcm hv hh
      go_upto_region 5 with fail
      go_still_tail 6, (by kernel_rfl)
      change wpList _ _ _ _ _ wr.drew
      go_wp2_with fail
      refine HC.out.mono ?_
      rintro e w1 ⟨rfl, hb1⟩
      have hb1' := below_drew' hb1
      have H1 := hide (And.intro (Hb.out.1.below hb1' Hb.out.1.lt) (Hb.out.2.trans (hb1'.mono Hb.out.2.size)))
      clear hb1 hb1' m0 m1 m2 m3 p0 p1 p2 p3 HC
      by_cases hv0 : v < 0
      · have hc1 := Hcm.out.1 hv0
        clear Hcm
        go_wp2_with fail
        exact ⟨⟨h + 1, j, by go_num, rfl, by omega, hj, hjn, H1.out.1, H1.out.2⟩, by simp [intOf]; omega⟩
      · have hc1 : ¬ h < cnt := fun k => hv0 (Hcm.out.2 k)
        clear Hcm
        go_wp2_with fail
        exact ⟨⟨i, h, rfl, rfl, hi, by omega, by omega, H1.out.1, H1.out.2⟩, by simp [intOf]; omega⟩
    · have hci : i = cnt := by omega
      have hlti : ¬ (i : Int) < (j : Int) := by omega
      by_cases hin : i < l.length
      · have hini : (i : Int) < (l.length : Int) := by omega
        have hlh : l[i]? = some l[i] := List.getElem?_eq_getElem hin
        have hx := H7.out.2.at_ hin
        have hhas := Hhas.out
        rw [← hci, hlh] at hhas
        simp only at hhas
        generalize l[i] = a at *
        generalize hcs : (xs.drop (i * 4)).take 4 = fcs at hx
        obtain ⟨c0, c1, c2, c3, rfl⟩ : ∃ c0 c1 c2 c3, fcs = [c0, c1, c2, c3] := by
          have hlen := HQ.out.2 _ _ _ hx
          match fcs, hlen with
          | [c0, c1, c2, c3], _ => exact ⟨c0, c1, c2, c3, rfl⟩
        obtain ⟨rb, ro, rfl, hF, hc⟩ := rown_at H7.out.1 hin hcs
        have q0 := hc 0 _ rfl
        have q1 := hc 1 _ rfl
        have q2 := hc 2 _ rfl
        have q3 := hc 3 _ rfl
        rw [Nat.add_zero] at q0
        have hx' := HQ.out.1 wr.drew _ _ (below_drew hb) hx
        have HC := hide (HF.out a _ wr.drew (below_drew hb) hx')
        obtain ⟨v, hv⟩ : ∃ v, E.cmp a e = v := ⟨_, rfl⟩
        rw [hv] at HC hhas
        have Hci := hide hci
        have Hh := hide hhas
        have HB := hide (And.intro hb hB)
        clear hB hb hx hx' hcs hc ec hlh hhas hv hci Hhas p0 p1 p2 p3
        go_upto_region 8 with fail
        obtain ⟨S, hS⟩ : ∃ S, (fun W => Below w.heap.size w W ∧ Bk W w.heap.size 96 #[t0, t1, t2, t3]) = S := ⟨_, rfl⟩
        have hS0 : S wr.drew := by rw [← hS]; exact ⟨below_drew HB.out.1, HB.out.2.drew⟩
        refine wp_region_head 15 S (by rfl) (by kernel_rfl) ?_
        refine HT.take 0 (v := ?_) rfl (by kernel_rfl) (fun _ _ _ h => h) (Or.inl ⟨by rfl, ?_⟩) (by assumption) ?_
        rotate_left
        · intro W hSw; rw [← hS] at hSw; have hSw := show Below w.heap.size w W ∧ Bk W w.heap.size 96 #[t0, t1, t2, t3] from hSw; have ecw := (bcell hSw.1).1; have m0 := (ecw _ _ hF).trans q0; have m1 := (ecw _ _ hF).trans q1; have m2 := (ecw _ _ hF).trans q2; have m3 := (ecw _ _ hF).trans q3; have s0 := hSw.2.cell 0; have s1 := hSw.2.cell 1; have s2 := hSw.2.cell 2; have s3 := hSw.2.cell 3; simp at s0 s1 s2 s3; clear hSw ecw; go_simp; with_reducible rfl
        simp only [Act.put, List.setIfInBounds_toArray, List.set_cons_zero, List.set_cons_succ]
        refine HT.take 1 (v := ?_) rfl (by kernel_rfl) (fun _ _ _ h => h) (Or.inl ⟨by rfl, ?_⟩) (by assumption) ?_
        rotate_left
        · intro W hSw; rw [← hS] at hSw; have hSw := show Below w.heap.size w W ∧ Bk W w.heap.size 96 #[t0, t1, t2, t3] from hSw; have ecw := (bcell hSw.1).1; have m0 := (ecw _ _ hF).trans q0; have m1 := (ecw _ _ hF).trans q1; have m2 := (ecw _ _ hF).trans q2; have m3 := (ecw _ _ hF).trans q3; have s0 := hSw.2.cell 0; have s1 := hSw.2.cell 1; have s2 := hSw.2.cell 2; have s3 := hSw.2.cell 3; simp at s0 s1 s2 s3; clear hSw ecw; go_simp; with_reducible rfl
        simp only [Act.put, List.setIfInBounds_toArray, List.set_cons_zero, List.set_cons_succ]
        refine HT.take 2 (v := ?_) rfl (by kernel_rfl) (fun _ _ _ h => h) (Or.inl ⟨by rfl, ?_⟩) (by assumption) ?_
        rotate_left
        · intro W hSw; rw [← hS] at hSw; have hSw := show Below w.heap.size w W ∧ Bk W w.heap.size 96 #[t0, t1, t2, t3] from hSw; have ecw := (bcell hSw.1).1; have m0 := (ecw _ _ hF).trans q0; have m1 := (ecw _ _ hF).trans q1; have m2 := (ecw _ _ hF).trans q2; have m3 := (ecw _ _ hF).trans q3; have s0 := hSw.2.cell 0; have s1 := hSw.2.cell 1; have s2 := hSw.2.cell 2; have s3 := hSw.2.cell 3; simp at s0 s1 s2 s3; clear hSw ecw; go_simp; with_reducible rfl
        simp only [Act.put, List.setIfInBounds_toArray, List.set_cons_zero, List.set_cons_succ]
        refine HT.take 3 (v := ?_) rfl (by kernel_rfl) (fun _ _ _ h => h) (Or.inl ⟨by rfl, ?_⟩) (by assumption) ?_
        rotate_left
        · intro W hSw; rw [← hS] at hSw; have hSw := show Below w.heap.size w W ∧ Bk W w.heap.size 96 #[t0, t1, t2, t3] from hSw; have ecw := (bcell hSw.1).1; have m0 := (ecw _ _ hF).trans q0; have m1 := (ecw _ _ hF).trans q1; have m2 := (ecw _ _ hF).trans q2; have m3 := (ecw _ _ hF).trans q3; have s0 := hSw.2.cell 0; have s1 := hSw.2.cell 1; have s2 := hSw.2.cell 2; have s3 := hSw.2.cell 3; simp at s0 s1 s2 s3; clear hSw ecw; go_simp; with_reducible rfl
        simp only [Act.put, List.setIfInBounds_toArray, List.set_cons_zero, List.set_cons_succ]
        refine HT.take 4 (v := ?_) rfl (by kernel_rfl) (fun _ _ _ h => h) (Or.inl ⟨by rfl, ?_⟩) (by assumption) ?_
        rotate_left
        · intro W hSw; rw [← hS] at hSw; have hSw := show Below w.heap.size w W ∧ Bk W w.heap.size 96 #[t0, t1, t2, t3] from hSw; have ecw := (bcell hSw.1).1; have m0 := (ecw _ _ hF).trans q0; have m1 := (ecw _ _ hF).trans q1; have m2 := (ecw _ _ hF).trans q2; have m3 := (ecw _ _ hF).trans q3; have s0 := hSw.2.cell 0; have s1 := hSw.2.cell 1; have s2 := hSw.2.cell 2; have s3 := hSw.2.cell 3; simp at s0 s1 s2 s3; clear hSw ecw; go_simp; with_reducible rfl
        simp only [Act.put, List.setIfInBounds_toArray, List.set_cons_zero, List.set_cons_succ]
        refine HT.take 5 (v := ?_) rfl (by kernel_rfl) (fun _ _ _ h => h) (Or.inl ⟨by rfl, ?_⟩) (by assumption) ?_
        rotate_left
        · intro W hSw; rw [← hS] at hSw; have hSw := show Below w.heap.size w W ∧ Bk W w.heap.size 96 #[t0, t1, t2, t3] from hSw; have ecw := (bcell hSw.1).1; have m0 := (ecw _ _ hF).trans q0; have m1 := (ecw _ _ hF).trans q1; have m2 := (ecw _ _ hF).trans q2; have m3 := (ecw _ _ hF).trans q3; have s0 := hSw.2.cell 0; have s1 := hSw.2.cell 1; have s2 := hSw.2.cell 2; have s3 := hSw.2.cell 3; simp at s0 s1 s2 s3; clear hSw ecw; go_simp; with_reducible rfl
        simp only [Act.put, List.setIfInBounds_toArray, List.set_cons_zero, List.set_cons_succ]
        refine HT.take 6 (v := ?_) rfl (by kernel_rfl) (fun _ _ _ h => h) (Or.inl ⟨by rfl, ?_⟩) (by assumption) ?_
        rotate_left
        · intro W hSw; rw [← hS] at hSw; have hSw := show Below w.heap.size w W ∧ Bk W w.heap.size 96 #[t0, t1, t2, t3] from hSw; have ecw := (bcell hSw.1).1; have m0 := (ecw _ _ hF).trans q0; have m1 := (ecw _ _ hF).trans q1; have m2 := (ecw _ _ hF).trans q2; have m3 := (ecw _ _ hF).trans q3; have s0 := hSw.2.cell 0; have s1 := hSw.2.cell 1; have s2 := hSw.2.cell 2; have s3 := hSw.2.cell 3; simp at s0 s1 s2 s3; clear hSw ecw; go_simp; with_reducible rfl
        simp only [Act.put, List.setIfInBounds_toArray, List.set_cons_zero, List.set_cons_succ]
        refine HT.take 7 (v := ?_) rfl (by kernel_rfl) (fun _ _ _ h => h) (Or.inl ⟨by rfl, ?_⟩) (by assumption) ?_
        rotate_left
        · intro W hSw; rw [← hS] at hSw; have hSw := show Below w.heap.size w W ∧ Bk W w.heap.size 96 #[t0, t1, t2, t3] from hSw; have ecw := (bcell hSw.1).1; have m0 := (ecw _ _ hF).trans q0; have m1 := (ecw _ _ hF).trans q1; have m2 := (ecw _ _ hF).trans q2; have m3 := (ecw _ _ hF).trans q3; have s0 := hSw.2.cell 0; have s1 := hSw.2.cell 1; have s2 := hSw.2.cell 2; have s3 := hSw.2.cell 3; simp at s0 s1 s2 s3; clear hSw ecw; go_simp; with_reducible rfl
        simp only [Act.put, List.setIfInBounds_toArray, List.set_cons_zero, List.set_cons_succ]
        refine HT.take 8 (v := ?_) rfl (by kernel_rfl) (fun _ _ _ h => h) (Or.inl ⟨by rfl, ?_⟩) (by assumption) ?_
        rotate_left
        · intro W hSw; rw [← hS] at hSw; have hSw := show Below w.heap.size w W ∧ Bk W w.heap.size 96 #[t0, t1, t2, t3] from hSw; have ecw := (bcell hSw.1).1; have m0 := (ecw _ _ hF).trans q0; have m1 := (ecw _ _ hF).trans q1; have m2 := (ecw _ _ hF).trans q2; have m3 := (ecw _ _ hF).trans q3; have s0 := hSw.2.cell 0; have s1 := hSw.2.cell 1; have s2 := hSw.2.cell 2; have s3 := hSw.2.cell 3; simp at s0 s1 s2 s3; clear hSw ecw; go_simp; with_reducible rfl
        simp only [Act.put, List.setIfInBounds_toArray, List.set_cons_zero, List.set_cons_succ]
        refine HT.take 9 (v := ?_) rfl (by kernel_rfl) (fun _ _ _ h => h) (Or.inl ⟨by rfl, ?_⟩) (by assumption) ?_
        rotate_left
        · intro W hSw; rw [← hS] at hSw; have hSw := show Below w.heap.size w W ∧ Bk W w.heap.size 96 #[t0, t1, t2, t3] from hSw; have ecw := (bcell hSw.1).1; have m0 := (ecw _ _ hF).trans q0; have m1 := (ecw _ _ hF).trans q1; have m2 := (ecw _ _ hF).trans q2; have m3 := (ecw _ _ hF).trans q3; have s0 := hSw.2.cell 0; have s1 := hSw.2.cell 1; have s2 := hSw.2.cell 2; have s3 := hSw.2.cell 3; simp at s0 s1 s2 s3; clear hSw ecw; go_simp; with_reducible rfl
        simp only [Act.put, List.setIfInBounds_toArray, List.set_cons_zero, List.set_cons_succ]
        refine HT.take 10 (v := ?_) rfl (by kernel_rfl) (fun _ _ _ h => h) (Or.inl ⟨by rfl, ?_⟩) (by assumption) ?_
        rotate_left
        · intro W hSw; rw [← hS] at hSw; have hSw := show Below w.heap.size w W ∧ Bk W w.heap.size 96 #[t0, t1, t2, t3] from hSw; have ecw := (bcell hSw.1).1; have m0 := (ecw _ _ hF).trans q0; have m1 := (ecw _ _ hF).trans q1; have m2 := (ecw _ _ hF).trans q2; have m3 := (ecw _ _ hF).trans q3; have s0 := hSw.2.cell 0; have s1 := hSw.2.cell 1; have s2 := hSw.2.cell 2; have s3 := hSw.2.cell 3; simp at s0 s1 s2 s3; clear hSw ecw; go_simp; with_reducible rfl
        simp only [Act.put, List.setIfInBounds_toArray, List.set_cons_zero, List.set_cons_succ]
        refine HT.one 11 rfl (by kernel_rfl) (by rfl) (fun K hK => ?_)
        go_simp
        refine HC.out.mono ?_
        rintro e w1 ⟨rfl, hb1⟩
        have hS1 : S w1 := by rw [← hS]; exact ⟨(below_drew HB.out.1).trans (hb1.mono (below_drew HB.out.1).size), HB.out.2.drew.below hb1 hgl⟩
        have H1 := hide (HB.out.1.trans ((below_drew' hb1).mono HB.out.1.size))
        clear hb1 q0 q1 q2 q3 hF HC
        by_cases hv0 : v = 0
        · have hb : has = true := by rw [Hh.out]; exact decide_eq_true hv0
          subst hv0 hb
          go_simp
          refine hK.out _ _ hS1 ?_
          clear hK
          refine HT.take 12 (v := ?_) rfl (by kernel_rfl) (fun _ _ _ h => h) (Or.inl ⟨by rfl, ?_⟩) (by assumption) ?_
          rotate_left
          · intro W hSw; go_simp; with_reducible rfl
          simp only [Act.put, List.setIfInBounds_toArray, List.set_cons_zero, List.set_cons_succ]
          refine HT.take 13 (v := ?_) rfl (by kernel_rfl) (fun _ _ _ h => h) (Or.inl ⟨by rfl, ?_⟩) (by assumption) ?_
          rotate_left
          · intro W hSw; go_simp; with_reducible rfl
          simp only [Act.put, List.setIfInBounds_toArray, List.set_cons_zero, List.set_cons_succ]
          refine HT.take 14 (v := ?_) rfl (by kernel_rfl) (fun _ _ _ h => h) (Or.inl ⟨by rfl, ?_⟩) (by assumption) ?_
          rotate_left
          · intro W hSw; go_simp; with_reducible rfl
          simp only [Act.put, List.setIfInBounds_toArray, List.set_cons_zero, List.set_cons_succ]
          refine HT.done (by kernel_rfl) ?_
          go_wp2
          go_ret2
          exact ⟨by first | (rw [Hci.out]; done) | (rw [Hci.out]; rfl), H1.out⟩
        · have hb : has = false := by rw [Hh.out]; exact decide_eq_false hv0
          subst hb
          have hvb : (v == 0) = false := by simpa using hv0
          go_simp
          refine hK.out _ _ hS1 ?_
          clear hK
          refine HT.take 12 (v := ?_) rfl (by kernel_rfl) (fun _ _ _ h => h) (Or.inl ⟨by rfl, ?_⟩) (by assumption) ?_
          rotate_left
          · intro W hSw; go_simp; with_reducible rfl
          simp only [Act.put, List.setIfInBounds_toArray, List.set_cons_zero, List.set_cons_succ]
          refine HT.take 13 (v := ?_) rfl (by kernel_rfl) (fun _ _ _ h => h) (Or.inl ⟨by rfl, ?_⟩) (by assumption) ?_
          rotate_left
          · intro W hSw; go_simp; with_reducible rfl
          simp only [Act.put, List.setIfInBounds_toArray, List.set_cons_zero, List.set_cons_succ]
          refine HT.take 14 (v := ?_) rfl (by kernel_rfl) (fun _ _ _ h => h) (Or.inl ⟨by rfl, ?_⟩) (by assumption) ?_
          rotate_left
          · intro W hSw; go_simp; with_reducible rfl
          simp only [Act.put, List.setIfInBounds_toArray, List.set_cons_zero, List.set_cons_succ]
          refine HT.done (by kernel_rfl) ?_
          go_wp2
          go_ret2
          exact ⟨by first | (rw [Hci.out]; done) | (rw [Hci.out]; rfl), H1.out⟩
      · have hini : ¬ (i : Int) < (l.length : Int) := by omega
        have hb : has = false := by rw [Hhas.out, ← hci, List.getElem?_eq_none (by omega)]
        subst hb
        have Hci := hide hci
        have Hb := hide hb
        clear hB hb ec hci Hhas
        go_wp2_with fail
        go_quiet (fail)
        go_wp2
        go_ret2
        exact ⟨by first | (rw [Hci.out]; done) | (rw [Hci.out]; rfl), below_drewN Hb.out _⟩

set_option maxRecDepth 100000 in
set_option maxHeartbeats 4000000 in
theorem searchK_calls {f : FuncId} (hcf : ∀ args W, (callFunc f args).run Tryz.prog W = .ok (.enter f args) W) {Q : World → E → List Value → Prop} {l : List E} {A : Option Addr} {c : Nat} {w : World} {xs : List Value} {e : E} {t0 t1 t2 t3 : Value} (hl47 : l.length * 40 ≤ R47) (hr : Row (Old w) w 5 A l.length xs) (hx : Cells 5 (Q w) l xs)
    (hQ : ∀ W a cs, Below w.heap.size w W → Q w a cs → Q W a cs) (hQl : ∀ W a cs, Q W a cs → cs.length = 5) (hok : POk l) (he : e.Ok) (hs : SortC E.cmp l)
    (hF : ∀ (a : E) (cs : List Value) (W : World), Below w.heap.size w W → Q W a cs → Calls Tryz.prog f #[.agg cs.toArray, .agg #[t0, t1, t2, t3]] W (CmpPost (E.cmp a e) W)) :
    Calls Tryz.prog 124 #[.slice A l.length c, .agg #[t0, t1, t2, t3], .func (.func f) #[] #[]] w (SearchPost l e w) := by
  have hl47' : l.length * 40 ≤ 140737488351232 := hl47
  have hcl := cntC_le (c := E.cmp) e l
  have Hcl := hide (cntC_lt E.ord_ he hok hs)
  have H7 := hide (And.intro hr hx)
  have HQ := hide (And.intro hQ hQl)
  have HF := hide hF
  have Hhas := hide (show hasC E.cmp e l = (match l[cntC E.cmp e l]? with | some a => decide (E.cmp a e = 0) | none => false) from by unfold hasC; cases l[cntC E.cmp e l]? <;> rfl)
  unfold SearchPost
  generalize hasC E.cmp e l = has at *
  generalize cntC E.cmp e l = cnt at *
  clear hl47 hr hx hQ hQl hok he hs hF
  go_enter Tryz.func124, Tryz.ntmps124
  go_wp2_with fail
  have hB0 := Bk.new w 96 #[t0, t1, t2, t3]
  have hb0 : Below w.heap.size w (w.alloc (.cells #[t0, t1, t2, t3] 96)) := (Below.refl _ _).alloc (Nat.le_refl _) _
  have H0 := hide (And.intro hB0 hb0)
  clear hB0 hb0
  go_loopw [9, 10] (fun s9 s10 W => BSInv w l.length cnt #[t0, t1, t2, t3] s9 s10 W) (fun s9 s10 _ => (intOf s10).toNat - (intOf s9).toNat)
  case atStart => exact ⟨0, l.length, rfl, rfl, Nat.zero_le _, hcl, Nat.le_refl _, H0.out.1, H0.out.2⟩
  case round =>
    obtain ⟨i, j, rfl, rfl, hi, hj, hjn, hB, hb⟩ := hrel
    have hi0 : (0 : Int) ≤ (i : Int) := Int.natCast_nonneg _
    have hj0 : (0 : Int) ≤ (j : Int) := Int.natCast_nonneg _
    have ec := (bcell hb).1
    have p0 := hB.cell 0
    have p1 := hB.cell 1
    have p2 := hB.cell 2
    have p3 := hB.cell 3
    simp at p0 p1 p2 p3
    have hgl := hB.lt
    by_cases hlt : i < j
    · have hlti : (i : Int) < (j : Int) := by omega
      obtain ⟨h, hh⟩ : ∃ h, (i + j) / 2 = h := ⟨_, rfl⟩
      have hh1 : i ≤ h := by omega
      have hh2 : h < j := by omega
      have hhl : h < l.length := by omega
      have eh : ((i : Int) + (j : Int)) / 2 = (h : Int) := by omega
      have hhi0 : (0 : Int) ≤ (h : Int) := Int.natCast_nonneg _
      have hhi1 : (h : Int) < (l.length : Int) := by omega
      have hlh : l[h]? = some l[h] := List.getElem?_eq_getElem hhl
      have hx := H7.out.2.at_ hhl
      have hcm := Hcl.out h _ hlh
      generalize l[h] = a at *
      generalize hcs : (xs.drop (h * 5)).take 5 = fcs at hx
      obtain ⟨c0, c1, c2, c3, c4, rfl⟩ : ∃ c0 c1 c2 c3 c4, fcs = [c0, c1, c2, c3, c4] := by
        have hlen := HQ.out.2 _ _ _ hx
        match fcs, hlen with
        | [c0, c1, c2, c3, c4], _ => exact ⟨c0, c1, c2, c3, c4, rfl⟩
      obtain ⟨rb, ro, rfl, hF, hc⟩ := rown_at H7.out.1 hhl hcs
      have m0 := (ec _ _ hF).trans (hc 0 _ rfl)
      have m1 := (ec _ _ hF).trans (hc 1 _ rfl)
      have m2 := (ec _ _ hF).trans (hc 2 _ rfl)
      have m3 := (ec _ _ hF).trans (hc 3 _ rfl)
      have m4 := (ec _ _ hF).trans (hc 4 _ rfl)
      rw [Nat.add_zero] at m0
      have hx' := HQ.out.1 wr.drew _ _ (below_drew hb) hx
      have HC := hide (HF.out a _ wr.drew (below_drew hb) hx')
      obtain ⟨v, hv⟩ : ∃ v, E.cmp a e = v := ⟨_, rfl⟩
      rw [hv] at HC hcm
      have Hcm := hide hcm
      have Hb := hide (And.intro hB hb)
      clear hB hb hx hx' hcs hc ec hF hlh hcm hv hh
      go_upto_region 5 with fail
      go_still_tail 6, (by kernel_rfl)
      change wpList _ _ _ _ _ wr.drew
      go_wp2_with fail
      refine HC.out.mono ?_
      rintro e w1 ⟨rfl, hb1⟩
      have hb1' := below_drew' hb1
      have H1 := hide (And.intro (Hb.out.1.below hb1' Hb.out.1.lt) (Hb.out.2.trans (hb1'.mono Hb.out.2.size)))
      clear hb1 hb1' m0 m1 m2 m3 m4 p0 p1 p2 p3 HC
      by_cases hv0 : v < 0
      · have hc1 := Hcm.out.1 hv0
        clear Hcm
        go_wp2_with fail
        exact ⟨⟨h + 1, j, by go_num, rfl, by omega, hj, hjn, H1.out.1, H1.out.2⟩, by simp [intOf]; omega⟩
      · have hc1 : ¬ h < cnt := fun k => hv0 (Hcm.out.2 k)
        clear Hcm
        go_wp2_with fail
        exact ⟨⟨i, h, rfl, rfl, hi, by omega, by omega, H1.out.1, H1.out.2⟩, by simp [intOf]; omega⟩
    · have hci : i = cnt := by omega
      have hlti : ¬ (i : Int) < (j : Int) := by omega
      by_cases hin : i < l.length
      · have hini : (i : Int) < (l.length : Int) := by omega
        have hlh : l[i]? = some l[i] := List.getElem?_eq_getElem hin
        have hx := H7.out.2.at_ hin
        have hhas := Hhas.out
        rw [← hci, hlh] at hhas
        simp only at hhas
        generalize l[i] = a at *
        generalize hcs : (xs.drop (i * 5)).take 5 = fcs at hx
        obtain ⟨c0, c1, c2, c3, c4, rfl⟩ : ∃ c0 c1 c2 c3 c4, fcs = [c0, c1, c2, c3, c4] := by
          have hlen := HQ.out.2 _ _ _ hx
          match fcs, hlen with
          | [c0, c1, c2, c3, c4], _ => exact ⟨c0, c1, c2, c3, c4, rfl⟩
        obtain ⟨rb, ro, rfl, hF, hc⟩ := rown_at H7.out.1 hin hcs
        have q0 := hc 0 _ rfl
        have q1 := hc 1 _ rfl
        have q2 := hc 2 _ rfl
        have q3 := hc 3 _ rfl
        have q4 := hc 4 _ rfl
        rw [Nat.add_zero] at q0
        have hx' := HQ.out.1 wr.drew _ _ (below_drew hb) hx
        have HC := hide (HF.out a _ wr.drew (below_drew hb) hx')
        obtain ⟨v, hv⟩ : ∃ v, E.cmp a e = v := ⟨_, rfl⟩
        rw [hv] at HC hhas
        have Hci := hide hci
        have Hh := hide hhas
        have HB := hide (And.intro hb hB)
        clear hB hb hx hx' hcs hc ec hlh hhas hv hci Hhas p0 p1 p2 p3
        go_upto_region 8 with fail
        obtain ⟨S, hS⟩ : ∃ S, (fun W => Below w.heap.size w W ∧ Bk W w.heap.size 96 #[t0, t1, t2, t3]) = S := ⟨_, rfl⟩
        have hS0 : S wr.drew := by rw [← hS]; exact ⟨below_drew HB.out.1, HB.out.2.drew⟩
        refine wp_region_head 15 S (by rfl) (by kernel_rfl) ?_
        refine HT.take 0 (v := ?_) rfl (by kernel_rfl) (fun _ _ _ h => h) (Or.inl ⟨by rfl, ?_⟩) (by assumption) ?_
        rotate_left
        · intro W hSw; rw [← hS] at hSw; have hSw := show Below w.heap.size w W ∧ Bk W w.heap.size 96 #[t0, t1, t2, t3] from hSw; have ecw := (bcell hSw.1).1; have m0 := (ecw _ _ hF).trans q0; have m1 := (ecw _ _ hF).trans q1; have m2 := (ecw _ _ hF).trans q2; have m3 := (ecw _ _ hF).trans q3; have m4 := (ecw _ _ hF).trans q4; have s0 := hSw.2.cell 0; have s1 := hSw.2.cell 1; have s2 := hSw.2.cell 2; have s3 := hSw.2.cell 3; simp at s0 s1 s2 s3; clear hSw ecw; go_simp; with_reducible rfl
        simp only [Act.put, List.setIfInBounds_toArray, List.set_cons_zero, List.set_cons_succ]
        refine HT.take 1 (v := ?_) rfl (by kernel_rfl) (fun _ _ _ h => h) (Or.inl ⟨by rfl, ?_⟩) (by assumption) ?_
        rotate_left
        · intro W hSw; rw [← hS] at hSw; have hSw := show Below w.heap.size w W ∧ Bk W w.heap.size 96 #[t0, t1, t2, t3] from hSw; have ecw := (bcell hSw.1).1; have m0 := (ecw _ _ hF).trans q0; have m1 := (ecw _ _ hF).trans q1; have m2 := (ecw _ _ hF).trans q2; have m3 := (ecw _ _ hF).trans q3; have m4 := (ecw _ _ hF).trans q4; have s0 := hSw.2.cell 0; have s1 := hSw.2.cell 1; have s2 := hSw.2.cell 2; have s3 := hSw.2.cell 3; simp at s0 s1 s2 s3; clear hSw ecw; go_simp; with_reducible rfl
        simp only [Act.put, List.setIfInBounds_toArray, List.set_cons_zero, List.set_cons_succ]
        refine HT.take 2 (v := ?_) rfl (by kernel_rfl) (fun _ _ _ h => h) (Or.inl ⟨by rfl, ?_⟩) (by assumption) ?_
        rotate_left
        · intro W hSw; rw [← hS] at hSw; have hSw := show Below w.heap.size w W ∧ Bk W w.heap.size 96 #[t0, t1, t2, t3] from hSw; have ecw := (bcell hSw.1).1; have m0 := (ecw _ _ hF).trans q0; have m1 := (ecw _ _ hF).trans q1; have m2 := (ecw _ _ hF).trans q2; have m3 := (ecw _ _ hF).trans q3; have m4 := (ecw _ _ hF).trans q4; have s0 := hSw.2.cell 0; have s1 := hSw.2.cell 1; have s2 := hSw.2.cell 2; have s3 := hSw.2.cell 3; simp at s0 s1 s2 s3; clear hSw ecw; go_simp; with_reducible rfl
        simp only [Act.put, List.setIfInBounds_toArray, List.set_cons_zero, List.set_cons_succ]
        refine HT.take 3 (v := ?_) rfl (by kernel_rfl) (fun _ _ _ h => h) (Or.inl ⟨by rfl, ?_⟩) (by assumption) ?_
        rotate_left
        · intro W hSw; rw [← hS] at hSw; have hSw := show Below w.heap.size w W ∧ Bk W w.heap.size 96 #[t0, t1, t2, t3] from hSw; have ecw := (bcell hSw.1).1; have m0 := (ecw _ _ hF).trans q0; have m1 := (ecw _ _ hF).trans q1; have m2 := (ecw _ _ hF).trans q2; have m3 := (ecw _ _ hF).trans q3; have m4 := (ecw _ _ hF).trans q4; have s0 := hSw.2.cell 0; have s1 := hSw.2.cell 1; have s2 := hSw.2.cell 2; have s3 := hSw.2.cell 3; simp at s0 s1 s2 s3; clear hSw ecw; go_simp; with_reducible rfl
        simp only [Act.put, List.setIfInBounds_toArray, List.set_cons_zero, List.set_cons_succ]
        refine HT.take 4 (v := ?_) rfl (by kernel_rfl) (fun _ _ _ h => h) (Or.inl ⟨by rfl, ?_⟩) (by assumption) ?_
        rotate_left
        · intro W hSw; rw [← hS] at hSw; have hSw := show Below w.heap.size w W ∧ Bk W w.heap.size 96 #[t0, t1, t2, t3] from hSw; have ecw := (bcell hSw.1).1; have m0 := (ecw _ _ hF).trans q0; have m1 := (ecw _ _ hF).trans q1; have m2 := (ecw _ _ hF).trans q2; have m3 := (ecw _ _ hF).trans q3; have m4 := (ecw _ _ hF).trans q4; have s0 := hSw.2.cell 0; have s1 := hSw.2.cell 1; have s2 := hSw.2.cell 2; have s3 := hSw.2.cell 3; simp at s0 s1 s2 s3; clear hSw ecw; go_simp; with_reducible rfl
        simp only [Act.put, List.setIfInBounds_toArray, List.set_cons_zero, List.set_cons_succ]
        refine HT.take 5 (v := ?_) rfl (by kernel_rfl) (fun _ _ _ h => h) (Or.inl ⟨by rfl, ?_⟩) (by assumption) ?_
        rotate_left
        · intro W hSw; rw [← hS] at hSw; have hSw := show Below w.heap.size w W ∧ Bk W w.heap.size 96 #[t0, t1, t2, t3] from hSw; have ecw := (bcell hSw.1).1; have m0 := (ecw _ _ hF).trans q0; have m1 := (ecw _ _ hF).trans q1; have m2 := (ecw _ _ hF).trans q2; have m3 := (ecw _ _ hF).trans q3; have m4 := (ecw _ _ hF).trans q4; have s0 := hSw.2.cell 0; have s1 := hSw.2.cell 1; have s2 := hSw.2.cell 2; have s3 := hSw.2.cell 3; simp at s0 s1 s2 s3; clear hSw ecw; go_simp; with_reducible rfl
        simp only [Act.put, List.setIfInBounds_toArray, List.set_cons_zero, List.set_cons_succ]
        refine HT.take 6 (v := ?_) rfl (by kernel_rfl) (fun _ _ _ h => h) (Or.inl ⟨by rfl, ?_⟩) (by assumption) ?_
        rotate_left
        · intro W hSw; rw [← hS] at hSw; have hSw := show Below w.heap.size w W ∧ Bk W w.heap.size 96 #[t0, t1, t2, t3] from hSw; have ecw := (bcell hSw.1).1; have m0 := (ecw _ _ hF).trans q0; have m1 := (ecw _ _ hF).trans q1; have m2 := (ecw _ _ hF).trans q2; have m3 := (ecw _ _ hF).trans q3; have m4 := (ecw _ _ hF).trans q4; have s0 := hSw.2.cell 0; have s1 := hSw.2.cell 1; have s2 := hSw.2.cell 2; have s3 := hSw.2.cell 3; simp at s0 s1 s2 s3; clear hSw ecw; go_simp; with_reducible rfl
        simp only [Act.put, List.setIfInBounds_toArray, List.set_cons_zero, List.set_cons_succ]
        refine HT.take 7 (v := ?_) rfl (by kernel_rfl) (fun _ _ _ h => h) (Or.inl ⟨by rfl, ?_⟩) (by assumption) ?_
        rotate_left
        · intro W hSw; rw [← hS] at hSw; have hSw := show Below w.heap.size w W ∧ Bk W w.heap.size 96 #[t0, t1, t2, t3] from hSw; have ecw := (bcell hSw.1).1; have m0 := (ecw _ _ hF).trans q0; have m1 := (ecw _ _ hF).trans q1; have m2 := (ecw _ _ hF).trans q2; have m3 := (ecw _ _ hF).trans q3; have m4 := (ecw _ _ hF).trans q4; have s0 := hSw.2.cell 0; have s1 := hSw.2.cell 1; have s2 := hSw.2.cell 2; have s3 := hSw.2.cell 3; simp at s0 s1 s2 s3; clear hSw ecw; go_simp; with_reducible rfl
        simp only [Act.put, List.setIfInBounds_toArray, List.set_cons_zero, List.set_cons_succ]
        refine HT.take 8 (v := ?_) rfl (by kernel_rfl) (fun _ _ _ h => h) (Or.inl ⟨by rfl, ?_⟩) (by assumption) ?_
        rotate_left
        · intro W hSw; rw [← hS] at hSw; have hSw := show Below w.heap.size w W ∧ Bk W w.heap.size 96 #[t0, t1, t2, t3] from hSw; have ecw := (bcell hSw.1).1; have m0 := (ecw _ _ hF).trans q0; have m1 := (ecw _ _ hF).trans q1; have m2 := (ecw _ _ hF).trans q2; have m3 := (ecw _ _ hF).trans q3; have m4 := (ecw _ _ hF).trans q4; have s0 := hSw.2.cell 0; have s1 := hSw.2.cell 1; have s2 := hSw.2.cell 2; have s3 := hSw.2.cell 3; simp at s0 s1 s2 s3; clear hSw ecw; go_simp; with_reducible rfl
        simp only [Act.put, List.setIfInBounds_toArray, List.set_cons_zero, List.set_cons_succ]
        refine HT.take 9 (v := ?_) rfl (by kernel_rfl) (fun _ _ _ h => h) (Or.inl ⟨by rfl, ?_⟩) (by assumption) ?_
        rotate_left
        · intro W hSw; rw [← hS] at hSw; have hSw := show Below w.heap.size w W ∧ Bk W w.heap.size 96 #[t0, t1, t2, t3] from hSw; have ecw := (bcell hSw.1).1; have m0 := (ecw _ _ hF).trans q0; have m1 := (ecw _ _ hF).trans q1; have m2 := (ecw _ _ hF).trans q2; have m3 := (ecw _ _ hF).trans q3; have m4 := (ecw _ _ hF).trans q4; have s0 := hSw.2.cell 0; have s1 := hSw.2.cell 1; have s2 := hSw.2.cell 2; have s3 := hSw.2.cell 3; simp at s0 s1 s2 s3; clear hSw ecw; go_simp; with_reducible rfl
        simp only [Act.put, List.setIfInBounds_toArray, List.set_cons_zero, List.set_cons_succ]
        refine HT.take 10 (v := ?_) rfl (by kernel_rfl) (fun _ _ _ h => h) (Or.inl ⟨by rfl, ?_⟩) (by assumption) ?_
        rotate_left
        · intro W hSw; rw [← hS] at hSw; have hSw := show Below w.heap.size w W ∧ Bk W w.heap.size 96 #[t0, t1, t2, t3] from hSw; have ecw := (bcell hSw.1).1; have m0 := (ecw _ _ hF).trans q0; have m1 := (ecw _ _ hF).trans q1; have m2 := (ecw _ _ hF).trans q2; have m3 := (ecw _ _ hF).trans q3; have m4 := (ecw _ _ hF).trans q4; have s0 := hSw.2.cell 0; have s1 := hSw.2.cell 1; have s2 := hSw.2.cell 2; have s3 := hSw.2.cell 3; simp at s0 s1 s2 s3; clear hSw ecw; go_simp; with_reducible rfl
        simp only [Act.put, List.setIfInBounds_toArray, List.set_cons_zero, List.set_cons_succ]
        refine HT.one 11 rfl (by kernel_rfl) (by rfl) (fun K hK => ?_)
        go_simp
        refine HC.out.mono ?_
        rintro e w1 ⟨rfl, hb1⟩
        have hS1 : S w1 := by rw [← hS]; exact ⟨(below_drew HB.out.1).trans (hb1.mono (below_drew HB.out.1).size), HB.out.2.drew.below hb1 hgl⟩
        have H1 := hide (HB.out.1.trans ((below_drew' hb1).mono HB.out.1.size))
        clear hb1 q0 q1 q2 q3 q4 hF HC
        by_cases hv0 : v = 0
        · have hb : has = true := by rw [Hh.out]; exact decide_eq_true hv0
          subst hv0 hb
          go_simp
          refine hK.out _ _ hS1 ?_
          clear hK
          refine HT.take 12 (v := ?_) rfl (by kernel_rfl) (fun _ _ _ h => h) (Or.inl ⟨by rfl, ?_⟩) (by assumption) ?_
          rotate_left
          · intro W hSw; go_simp; with_reducible rfl
          simp only [Act.put, List.setIfInBounds_toArray, List.set_cons_zero, List.set_cons_succ]
          refine HT.take 13 (v := ?_) rfl (by kernel_rfl) (fun _ _ _ h => h) (Or.inl ⟨by rfl, ?_⟩) (by assumption) ?_
          rotate_left
          · intro W hSw; go_simp; with_reducible rfl
          simp only [Act.put, List.setIfInBounds_toArray, List.set_cons_zero, List.set_cons_succ]
          refine HT.take 14 (v := ?_) rfl (by kernel_rfl) (fun _ _ _ h => h) (Or.inl ⟨by rfl, ?_⟩) (by assumption) ?_
          rotate_left
          · intro W hSw; go_simp; with_reducible rfl
          simp only [Act.put, List.setIfInBounds_toArray, List.set_cons_zero, List.set_cons_succ]
          refine HT.done (by kernel_rfl) ?_
          go_wp2
          go_ret2
          exact ⟨by first | (rw [Hci.out]; done) | (rw [Hci.out]; rfl), H1.out⟩
        · have hb : has = false := by rw [Hh.out]; exact decide_eq_false hv0
          subst hb
          have hvb : (v == 0) = false := by simpa using hv0
          go_simp
          refine hK.out _ _ hS1 ?_
          clear hK
          refine HT.take 12 (v := ?_) rfl (by kernel_rfl) (fun _ _ _ h => h) (Or.inl ⟨by rfl, ?_⟩) (by assumption) ?_
          rotate_left
          · intro W hSw; go_simp; with_reducible rfl
          simp only [Act.put, List.setIfInBounds_toArray, List.set_cons_zero, List.set_cons_succ]
          refine HT.take 13 (v := ?_) rfl (by kernel_rfl) (fun _ _ _ h => h) (Or.inl ⟨by rfl, ?_⟩) (by assumption) ?_
          rotate_left
          · intro W hSw; go_simp; with_reducible rfl
          simp only [Act.put, List.setIfInBounds_toArray, List.set_cons_zero, List.set_cons_succ]
          refine HT.take 14 (v := ?_) rfl (by kernel_rfl) (fun _ _ _ h => h) (Or.inl ⟨by rfl, ?_⟩) (by assumption) ?_
          rotate_left
          · intro W hSw; go_simp; with_reducible rfl
          simp only [Act.put, List.setIfInBounds_toArray, List.set_cons_zero, List.set_cons_succ]
          refine HT.done (by kernel_rfl) ?_
          go_wp2
          go_ret2
          exact ⟨by first | (rw [Hci.out]; done) | (rw [Hci.out]; rfl), H1.out⟩
      · have hini : ¬ (i : Int) < (l.length : Int) := by omega
        have hb : has = false := by rw [Hhas.out, ← hci, List.getElem?_eq_none (by omega)]
        subst hb
        have Hci := hide hci
        have Hb := hide hb
        clear hB hb ec hci Hhas
        go_wp2_with fail
        go_quiet (fail)
        go_wp2
        go_ret2
        exact ⟨by first | (rw [Hci.out]; done) | (rw [Hci.out]; rfl), below_drewN Hb.out _⟩

end Go.Proofs.YtajeghkjppkhcaaGreat
