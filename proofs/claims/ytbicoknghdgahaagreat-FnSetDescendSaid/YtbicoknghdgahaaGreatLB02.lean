/- Parts: LawSetDescend. -/
import Derived.Test.YtbicoknghdgahaaGreatLA01
import Derived.Test.YtbicoknghdgahaaGreatLB01
set_option linter.unusedVariables false
set_option linter.unusedSimpArgs false
namespace Go.Proofs.YtbicoknghdgahaaGreat
open Go.RowKit
attribute [local go_sem] run_store_float

def goesOn (r : REl) : List REl → List (List REl)
 | [] => []
 | a :: l => [r :: a :: l]
def moreL (r : REl) (ms : List (List REl)) : List (List REl) := ms.flatMap (goesOn r)
theorem moreL_snoc (r : REl) (ms : List (List REl)) (l : List REl) : moreL r (ms ++ [l]) = moreL r ms ++ goesOn r l := by simp [moreL]
theorem moreL_len (r : REl) (ms : List (List REl)) : (moreL r ms).length ≤ ms.length := by
 induction ms with
 | nil => simp [moreL]
 | cons l ms ih =>
  have e : moreL r (l :: ms) = goesOn r l ++ moreL r ms := by simp [moreL]
  rw [e, List.length_append, List.length_cons]
  have : (goesOn r l).length ≤ 1 := by cases l <;> simp [goesOn]
  omega
theorem pels_moreL (r : REl) (ms : List (List REl)) : pels (moreL r ms) = ((pels ms).filter fun p => decide (p ≠ [])).map (r.elem :: ·) := by
 induction ms with
 | nil => rfl
 | cons l ms ih =>
  have e : moreL r (l :: ms) = goesOn r l ++ moreL r ms := by simp [moreL]
  have e2 : pels (l :: ms) = pel l :: pels ms := rfl
  have e3 : pels (goesOn r l ++ moreL r ms) = pels (goesOn r l) ++ pels (moreL r ms) := List.map_append ..
  rw [e, e2, e3, ih]
  cases l with
  | nil => simp [goesOn, pels, pel]
  | cons a l => simp [goesOn, pels, pel]

theorem elem_ones {F : Nat → Prop} {w : World} {l : List REl} {xs : List Value} (h : Cells 11 (ElemAt F w) l xs) : ∀ u ∈ xs, u.oneCell' = true :=
 h.ones (by decide) fun a cs h => by
  obtain ⟨a0, a1, a2, a3, a4, a5, a6, a7, a8, a9, aa, ab, ac, ad, ae, af, ag, ah, ai, rfl⟩ := h.form
  simp [Value.oneCell']
def Off (W : World) (s : Value) (b : Nat) : Prop := b < W.heap.size ∧ s.ownBlock ≠ some b
theorem off_below {W V : World} {s : Value} {ls : List (List REl)} {us : List Value} (h : Cells 1 (PQ (Off W s) W) ls us) (hb : Below W.heap.size W V) : Cells 1 (PQ (Off V s) V) ls us :=
 h.mono fun _ _ h => PQ.mono (PQ.keeps h (Keeps.below hb fun b hb => hb.1)) fun b hb' => ⟨Nat.lt_of_lt_of_le hb'.1 hb.size, hb'.2⟩
theorem off_step {V W3 : World} {s s' : Value} {ls add : List (List REl)} {us news : List Value} (hc : Cells 1 (PQ (Off V s) V) ls us) (hadd : Cells 1 (PQ (Off V s) V) add news) (hg : V.grownBy W3 s.ownBlock) (hat : s'.ownBlock = s.ownBlock ∨ s'.ownBlock = some V.heap.size) : Cells 1 (PQ (Off W3 s') W3) (ls ++ add) (us ++ news) := by
 have hk : Keeps (Off V s) V W3 := fun b hb => hg.block b hb.1 fun e => hb.2 e.symm
 have hm : ∀ b, Off V s b → Off W3 s' b := fun b hb => by
  refine ⟨Nat.lt_of_lt_of_le hb.1 hg.size, fun e => ?_⟩
  rcases hat with e' | e'
  ·exact hb.2 (by rw [← e']; exact e)
  ·rw [e'] at e
   have e3 : V.heap.size = b := Option.some.inj e
   have := hb.1
   omega
 exact Cells.append (hc.mono fun _ _ h => PQ.mono (PQ.keeps h hk) hm) (hadd.mono fun _ _ h => PQ.mono (PQ.keeps h hk) hm)

def DLInv (w : World) (B : Nat) (pc : Array Value) (ls ms : List (List REl)) (r : REl) (s7 s41 : Value) (W : World) : Prop :=
 ∃ (k : Nat) (us : List Value), s41 = .int .i64 (k : Int) ∧ k ≤ ms.length ∧ W.ownsRow B 22 1 s7 (ls ++ moreL r (ms.take k)).length us ∧ Cells 1 (PQ (Off W s7) W) (ls ++ moreL r (ms.take k)) us ∧ Below w.heap.size w W ∧ Bk W w.heap.size 29 pc ∧ B ≤ W.heap.size

theorem desc_lists {ls ms : List (List REl)} {r : REl} (h : ∀ p ∈ pels ls, POk p) (hm : ∀ p ∈ pels ms, POk p) (he : r.elem.Ok) :
  (∀ p ∈ pels (ls ++ moreL r ms), POk p) ∧ peqvs (pelsP ((belowS r.elem (pels ms) (setP (pels ls))).paths.map (List.map E.toREl))) (pelsP ((specS (pels (ls ++ moreL r ms))).map (List.map E.toREl))) = true := by
 have e1 : pels (ls ++ moreL r ms) = pels ls ++ ((pels ms).filter fun p => decide (p ≠ [])).map (r.elem :: ·) := by
  rw [← pels_moreL]
  exact List.map_append ..
 have hall : ∀ p ∈ pels (ls ++ moreL r ms), POk p := fun p hp => by
  rw [e1] at hp
  rcases List.mem_append.1 hp with hp | hp
  ·exact h p hp
  ·obtain ⟨q, hq, rfl⟩ := List.mem_map.1 hp
   intro z hz
   rcases List.mem_cons.1 hz with rfl | hz
   ·exact he
   ·exact hm q (List.mem_filter.1 hq).1 z hz
 refine ⟨hall, ?_⟩
 have hw : ∀ p ∈ (belowS r.elem (pels ms) (setP (pels ls))).paths, PWS p := by
  exact paths_all (belowS_all (P := EWS) ⟨r, rfl⟩ (fun p hp => pels_pws hp) (setP_all fun p hp => pels_pws hp))
 rw [pelsP_back hw, pelsP_back (specS_pws1 hall)]
 have hwf := belowS_wf he hm (setP_wf h)
 refine (peqvs_alike (paths_pok hwf) (specS_ok hall).1).2 ?_
 rw [e1]
 exact belowS_alike h he hm

set_option maxRecDepth 100000 in
set_option maxHeartbeats 16000000 in
theorem setDescendLaw {ls ms : List (List REl)} {r : REl} {cs : List Value} {A B : Option Addr} {c d : Nat} {w : World} (h : PathsAt (Old w) w ls A c) (hr : ElemAt (Old w) w r cs) (hm : PathsAt (Old w) w ms B d) :
  Calls Tryz.prog 4 #[.slice A ls.length c, .agg cs.toArray, .slice B ms.length d] w (LawPost w) := by
 have HZ := hide fun (W : World) (hb : Below w.heap.size w W) => zzFits13_calls r W cs (hr.at_ hb)
 have HS1 := hide fun (W : World) (hb : Below w.heap.size w W) => small_calls (h.at_ hb)
 have HS2 := hide fun (W : World) (hb : Below w.heap.size w W) => small_calls (hm.at_ hb)
 have HO := hide fun (W : World) (hb : Below w.heap.size w W) => orderlyElem_calls r W cs (hr.at_ hb)
 have HB := hide fun (q1 : SmallL ls) (q2 : SmallL ms) (he : r.elem.Ok) (W : World) (hb : Below w.heap.size w W) => setBelow_calls (h.at_ hb) (hr.at_ hb) (hm.at_ hb) (pels_all q1.1) he (pels_all q2.1) (by have := q1.2.2; have := q2.2.2; unfold N38; omega) (pels_all fun l hl => by rw [pel_length]; exact q1.2.1 l hl) (pels_all fun l hl => by rw [pel_length]; exact q2.2.1 l hl)
 have HL := hide fun (q1 : SmallL ls) (q2 : SmallL ms) (he : r.elem.Ok) => desc_lists (pels_all q1.1) (pels_all q2.1) he
 obtain ⟨i9, hi9, hz9, hs9, hb9⟩ := info_parts paths_info
 obtain ⟨j9, hj9, hjz9, hjs9, hjb9⟩ := info_parts elem_info
 have hA47 : ls.length * 24 ≤ 140737488351232 := h.1
 have hB47 : ms.length * 24 ≤ 140737488351232 := hm.1
 obtain ⟨-, -, -, xs, hx1, hx2⟩ := h
 obtain ⟨-, -, -, zs, hz1, hz2⟩ := hm
 have HR := hide (And.intro hx1 (And.intro hx2 (And.intro hz1 hz2)))
 have Hr := hide hr
 obtain ⟨a0, a1, a2, a3, a4, a5, a6, a7, a8, a9, aa, ab, ac, ad, ae, af, ag, ah, ai, rfl⟩ := hr.form
 have hbx : Below w.heap.size w (w.alloc (.cells #[.int .i64 a0, .string a1, .slice a2 a3 a4, .slice a5 a6 a7, .int .i64 a8, .int .i64 a9, .float .f64 aa, .string ab, .slice ac ad ae, .slice af ag ah, .int .i64 ai] 29)) := (Below.refl _ _).alloc (Nat.le_refl _) _
 have hbox := Bk.new w 29 #[.int .i64 a0, .string a1, .slice a2 a3 a4, .slice a5 a6 a7, .int .i64 a8, .int .i64 a9, .float .f64 aa, .string ab, .slice ac ad ae, .slice af ag ah, .int .i64 ai]
 obtain ⟨w1, hw1⟩ : ∃ w1, w.alloc (.cells #[.int .i64 a0, .string a1, .slice a2 a3 a4, .slice a5 a6 a7, .int .i64 a8, .int .i64 a9, .float .f64 aa, .string ab, .slice ac ad ae, .slice af ag ah, .int .i64 ai] 29) = w1 := ⟨_, rfl⟩
 rw [hw1] at hbx hbox
 have Hb := hide hbx
 have Hbk := hide hbox
 obtain ⟨n, hn⟩ : ∃ n, ls.length = n := ⟨_, rfl⟩
 obtain ⟨m, hme⟩ : ∃ m, ms.length = m := ⟨_, rfl⟩
 have Hn := hide (And.intro hn hme)
 obtain ⟨Q1, hQ1⟩ : ∃ Q1, SmallL ls = Q1 := ⟨_, rfl⟩
 obtain ⟨Q2, hQ2⟩ : ∃ Q2, SmallL ms = Q2 := ⟨_, rfl⟩
 have HQ := hide (And.intro hQ1 hQ2)
 rw [hQ1] at HS1 HB HL
 rw [hQ2] at HS2 HB HL
 rw [hn] at HS1 HB hA47 ⊢
 rw [hme] at HS2 HB hB47 ⊢
 clear hbx hbox hr hn hme hx1 hx2 hz1 hz2 hQ1 hQ2
 by_cases hbig : 2147483647 < n
 ·have gi1 : (2147483647 : Int) < (n : Int) := by omega
  have gd1 : decide ((2147483647 : Int) < (n : Int)) = true := decide_eq_true gi1
  go_enter Tryz.func4, Tryz.ntmps4
  go_wp2_with fail
  try rw [hw1]
  clear hw1
  go_wp2
  go_ret
  exact ⟨rfl, Hb.out⟩
 have gi1 : ¬ (2147483647 : Int) < (n : Int) := by omega
 have gd1 : decide ((2147483647 : Int) < (n : Int)) = false := decide_eq_false gi1
 go_enter Tryz.func4, Tryz.ntmps4
 go_upto_region 1 with fail
 try rw [hw1]
 clear hw1
 obtain ⟨s0, s1, s2, s3, s4, s5, s6, s7, s8, s9, s10⟩ := Hbk.out.cells11
 go_wp2_with fail
 refine (HZ.out _ Hb.out).mono ?_
 rintro e w2 ⟨⟨z, rfl⟩, hb2⟩
 have Hb2 := hide (Hb.out.trans (hb2.mono Hb.out.size))
 have Hbk2 := hide (Hbk.out.below hb2 Hbk.out.lt)
 clear hb2 s0 s1 s2 s3 s4 s5 s6 s7 s8 s9 s10 Hb Hbk HZ
 have Hb := Hb2
 have Hbk := Hbk2
 clear Hb2 Hbk2
 obtain ⟨s0, s1, s2, s3, s4, s5, s6, s7, s8, s9, s10⟩ := Hbk.out.cells11
 cases z
 ·go_wp2
  go_ret
  exact ⟨rfl, Hb.out⟩
 by_cases hbig2 : 2147483647 < m
 ·have gi2 : (2147483647 : Int) < (m : Int) := by omega
  have gd2 : decide ((2147483647 : Int) < (m : Int)) = true := decide_eq_true gi2
  go_wp2
  go_ret
  exact ⟨rfl, Hb.out⟩
 have gi2 : ¬ (2147483647 : Int) < (m : Int) := by omega
 have gd2 : decide ((2147483647 : Int) < (m : Int)) = false := decide_eq_false gi2
 go_wp2_with fail
 refine (HS1.out _ Hb.out).mono ?_
 rintro e w3 ⟨t, rfl, ho, hb3⟩
 have Ho1 := hide ho
 have Hb3 := hide (Hb.out.trans (hb3.mono Hb.out.size))
 have Hbk3 := hide (Hbk.out.below hb3 Hbk.out.lt)
 clear hb3 ho s0 s1 s2 s3 s4 s5 s6 s7 s8 s9 s10 Hb Hbk HS1
 have Hb := Hb3
 have Hbk := Hbk3
 clear Hb3 Hbk3
 obtain ⟨s0, s1, s2, s3, s4, s5, s6, s7, s8, s9, s10⟩ := Hbk.out.cells11
 cases t
 ·go_wp2
  go_ret
  exact ⟨rfl, Hb.out⟩
 have q1 : Q1 := Ho1.out (by first | trivial | rfl)
 clear Ho1
 have q1 := hide q1
 go_wp2_with fail
 refine (HS2.out _ Hb.out).mono ?_
 rintro e w3' ⟨t, rfl, ho, hb3⟩
 have Ho1 := hide ho
 have Hb3 := hide (Hb.out.trans (hb3.mono Hb.out.size))
 have Hbk3 := hide (Hbk.out.below hb3 Hbk.out.lt)
 clear hb3 ho s0 s1 s2 s3 s4 s5 s6 s7 s8 s9 s10 Hb Hbk HS2
 have Hb := Hb3
 have Hbk := Hbk3
 clear Hb3 Hbk3
 obtain ⟨s0, s1, s2, s3, s4, s5, s6, s7, s8, s9, s10⟩ := Hbk.out.cells11
 cases t
 ·go_wp2
  go_ret
  exact ⟨rfl, Hb.out⟩
 have q2 : Q2 := Ho1.out (by first | trivial | rfl)
 clear Ho1
 have q2 := hide q2
 go_wp2_with fail
 refine (HO.out _ Hb.out).mono ?_
 rintro e w4 ⟨t, rfl, ho, hb4⟩
 have Ho1 := hide ho
 have Hb3 := hide (Hb.out.trans (hb4.mono Hb.out.size))
 have Hbk3 := hide (Hbk.out.below hb4 Hbk.out.lt)
 clear hb4 ho s0 s1 s2 s3 s4 s5 s6 s7 s8 s9 s10 Hb Hbk HO
 have Hb := Hb3
 have Hbk := Hbk3
 clear Hb3 Hbk3
 obtain ⟨s0, s1, s2, s3, s4, s5, s6, s7, s8, s9, s10⟩ := Hbk.out.cells11
 cases t
 ·go_wp2
  go_ret
  exact ⟨rfl, Hb.out⟩
 have he : r.elem.Ok := Ho1.out (by first | trivial | rfl)
 clear Ho1
 have q3 := hide he
 clear he
 have hSn : n ≤ 60 ∧ m ≤ 60 := by
  have h1 := q1.out
  have h2 := q2.out
  rw [← HQ.out.1] at h1
  rw [← HQ.out.2] at h2
  exact ⟨by rw [← Hn.out.1]; exact h1.2.2, by rw [← Hn.out.2]; exact h2.2.2⟩
 have hM8 : ∀ l ∈ ms, l.length ≤ 8 := by
  have h2 := q2.out
  rw [← HQ.out.2] at h2
  exact h2.2.1
 have hM8 := hide hM8
 obtain ⟨hn60, hm60⟩ := hSn
 have HB1 := hide (HB.out q1.out q2.out q3.out)
 have HL1 := hide (HL.out q1.out q2.out q3.out)
 clear HB HL HQ
 -- all := append([]impl.Path{}, l...)
 have hbA : Below w4.heap.size w4 (w4.alloc (.cells #[] 22)) := (Below.refl _ _).alloc (Nat.le_refl _) _
 have hown0 := World.ownsRow_lit (base := w4.heap.size) (e := 22) (size := 1) w4 #[] 0 (by simp) (by simp [maxLen]) (by simp)
 have hkA : Keeps (Old w) w (w4.alloc (.cells #[] 22)) := Keeps.below (Hb.out.trans (hbA.mono Hb.out.size)) fun _ h => h
 have hrowA : Row (Old w) (w4.alloc (.cells #[] 22)) 1 A n xs := by have := HR.out.1.keeps hkA; rwa [Hn.out.1] at this
 have HA := hide (And.intro hbA (And.intro hown0 (And.intro hrowA (HR.out.2.1.mono fun _ _ h => PQ.keeps h hkA))))
 have Hone := hide (pq_ones HR.out.2.1)
 clear hbA hown0 hkA hrowA
 go_wp2_with (at_builtin; go_loud (refine wpList_append_row _ rfl (.tmp 36) (.tmp 37) 36 rfl w4.heap.size 22 i9 _ 1 24 Tryz.underlying36 hi9 hz9 hs9 hb9 rfl (by omega) (.slice (some ⟨w4.heap.size, 0, none⟩) 0 0) 0 [] rfl HA.out.2.1 (Old w) A n c xs rfl HA.out.2.2.1 Hone.out (by omega) (by omega) (by rw [World.size_alloc]; omega) ?_))
 intro v5 w5 hown5 hg5 hat5
 have hlo1 : ∀ b, (Value.slice (some ⟨w4.heap.size, 0, none⟩) 0 0).ownBlock = some b → w4.heap.size ≤ b := fun b hb => by
  have e1 : w4.heap.size = b := Option.some.inj hb
  omega
 have hb45 : Below w4.heap.size w4 w5 := HA.out.1.grown hg5 HA.out.1.size hlo1
 have hst := old_step (ls := ([] : List (List REl))) (us := []) (Q := PQ) (fun h k => PQ.keeps h k) Cells.nil_ (Hb.out.trans (HA.out.1.mono Hb.out.size)) (fun b hb => Nat.le_trans Hb.out.size (hlo1 b hb)) hg5 HA.out.2.2.2
 rw [List.nil_append] at hst
 have hlt5 := hown5.lt
 have hww4 : w.heap.size < w4.heap.size := Hbk.out.lt
 have hstart : DLInv w w4.heap.size #[.int .i64 a0, .string a1, .slice a2 a3 a4, .slice a5 a6 a7, .int .i64 a8, .int .i64 a9, .float .f64 aa, .string ab, .slice ac ad ae, .slice af ag ah, .int .i64 ai] ls ms r v5 (.int .i64 0) w5 := by
  refine ⟨0, xs, rfl, Nat.zero_le _, ?_, ?_, hst.2, Hbk.out.below hb45 Hbk.out.lt, hb45.size⟩
  ·rw [List.take_zero, show moreL r [] = [] from rfl, List.append_nil, Hn.out.1]
   exact hown5
  ·rw [List.take_zero, show moreL r [] = [] from rfl, List.append_nil]
   exact hst.1.mono fun _ _ h => PQ.mono h fun b hb => ⟨Nat.lt_of_lt_of_le hb hst.2.size, fun e => by have := (hlt5 b e).1; have hb : b < w.heap.size := hb; omega⟩
 have Hst := hide hstart
 clear hown5 hg5 hat5 hlo1 hst hlt5 hstart HA Hone s0 s1 s2 s3 s4 s5 s6 s7 s8 s9 s10 Hb Hbk hb45
 go_wp2_with fail
 go_loopw [7, 41] (fun s7 s41 W => DLInv w w4.heap.size #[.int .i64 a0, .string a1, .slice a2 a3 a4, .slice a5 a6 a7, .int .i64 a8, .int .i64 a9, .float .f64 aa, .string ab, .slice ac ad ae, .slice af ag ah, .int .i64 ai] ls ms r s7 s41 W) (fun _ s _ => m - (intOf s).toNat)
 case atStart => exact Hst.out
 case round =>
  clear Hst
  obtain ⟨k, us, rfl, hk, hown, hcel, hb, hbk, hBl⟩ := hrel
  rw [Hn.out.2] at hk
  have hki0 : (0 : Int) ≤ (k : Int) := Int.natCast_nonneg _
  have hml := moreL_len r (ms.take k)
  obtain ⟨L, hL⟩ : ∃ L, ls ++ moreL r (ms.take k) = L := ⟨_, rfl⟩
  have hLn : L.length ≤ n + k := by
   rw [← hL, List.length_append, Hn.out.1]
   rw [List.length_take, Hn.out.2] at hml
   omega
  rw [hL] at hown hcel
  obtain ⟨q, hq⟩ : ∃ q, L.length = q := ⟨_, rfl⟩
  rw [hq] at hown hLn
  obtain ⟨oA, oc, rfl, hoc1, hoc2⟩ := own_form hown
  by_cases hlt : k < m
  ·have hki1 : (k : Int) < (m : Int) := by omega
   have hlt' : k < ms.length := by rw [Hn.out.2]; exact hlt
   have hx := HR.out.2.2.2.at_ hlt'
   have hsn : ms.take (k + 1) = ms.take k ++ [ms[k]] := by rw [List.take_succ_eq_append_getElem hlt']
   have hl8 : (ms[k]).length ≤ 8 := hM8.out _ (List.getElem_mem _)
   generalize ms[k] = l at *
   obtain ⟨B', d', ecs, hl⟩ := hx
   obtain ⟨rb, ro, rfl, hF, hc⟩ := rown_at HR.out.2.2.1 hlt' ecs
   have q0 := ((bcell hb).1 _ _ hF).trans (hc 0 _ rfl)
   rw [Nat.mul_one, Nat.add_zero] at q0
   have hrb : rb < w.heap.size := hF
   obtain ⟨p, hp⟩ : ∃ p, l.length = p := ⟨_, rfl⟩
   rw [hp] at q0 hl8
   have hnext : ls ++ moreL r (ms.take (k + 1)) = L ++ goesOn r l := by rw [hsn, moreL_snoc, ← List.append_assoc, hL]
   by_cases hp0 : p = 0
   ·subst hp0
    have gp0 : ¬ (0 : Int) < ((0 : Nat) : Int) := by decide
    have hl0 := List.eq_nil_of_length_eq_zero hp
    subst hl0
    rw [show goesOn r [] = [] from rfl, List.append_nil] at hnext
    have Hx := hide (show DLInv w w4.heap.size #[.int .i64 a0, .string a1, .slice a2 a3 a4, .slice a5 a6 a7, .int .i64 a8, .int .i64 a9, .float .f64 aa, .string ab, .slice ac ad ae, .slice af ag ah, .int .i64 ai] ls ms r (.slice oA q oc) (.int .i64 ((k + 1 : Nat) : Int)) wr from ⟨k + 1, us, rfl, by rw [Hn.out.2]; omega, by rw [hnext, hq]; exact hown, by rw [hnext]; exact hcel, hb, hbk, hBl⟩)
    clear hown hcel hb hbk hnext hsn hl ecs hc hF hL hq hp hml
    go_wp2_with fail
    exact ⟨Hx.out, by simp [intOf]; omega⟩
   have gp0 : (0 : Int) < (p : Int) := by omega
   have gdp0 : decide ((0 : Int) < (p : Int)) = true := decide_eq_true gp0
   have hgo : goesOn r l = [r :: l] := by
    cases l with
    | nil => exact absurd hp (by simp; omega)
    | cons a l => rfl
   rw [hgo] at hnext
   obtain ⟨s0, s1, s2, s3, s4, s5, s6, s7, s8, s9, s10⟩ := hbk.cells11
   have hpl : w.heap.size < wr.heap.size := hbk.lt
   -- append(impl.Path{e}, p...)
   have hbA : Below wr.heap.size wr (wr.alloc (.cells #[.int .i64 a0, .string a1, .slice a2 a3 a4, .slice a5 a6 a7, .int .i64 a8, .int .i64 a9, .float .f64 aa, .string ab, .slice ac ad ae, .slice af ag ah, .int .i64 ai] 29)) := (Below.refl _ _).alloc (Nat.le_refl _) _
   have hown0 := World.ownsRow_lit (base := wr.heap.size) (e := 29) (size := 11) wr #[.int .i64 a0, .string a1, .slice a2 a3 a4, .slice a5 a6 a7, .int .i64 a8, .int .i64 a9, .float .f64 aa, .string ab, .slice ac ad ae, .slice af ag ah, .int .i64 ai] 1 (by simp) (by simp [maxLen]) (by simp)
   have hkA : Keeps (Old w) w (wr.alloc (.cells #[.int .i64 a0, .string a1, .slice a2 a3 a4, .slice a5 a6 a7, .int .i64 a8, .int .i64 a9, .float .f64 aa, .string ab, .slice ac ad ae, .slice af ag ah, .int .i64 ai] 29)) := Keeps.below (hb.trans (hbA.mono hb.size)) fun _ h => h
   obtain ⟨_, hl2, hl3, ys, hl4, hl5⟩ := hl
   have HA := hide (And.intro hbA (And.intro hown0 (And.intro (show Row (Old w) (wr.alloc (.cells #[.int .i64 a0, .string a1, .slice a2 a3 a4, .slice a5 a6 a7, .int .i64 a8, .int .i64 a9, .float .f64 aa, .string ab, .slice ac ad ae, .slice af ag ah, .int .i64 ai] 29)) 11 B' p ys from by have := hl4.keeps hkA; rwa [hp] at this) (And.intro (hl5.mono fun _ _ h => h.keeps hkA) (Hr.out.keeps hkA)))))
   have Hone := hide (elem_ones hl5)
   rw [hp] at hl2
   have HI := hide (And.intro hown (And.intro hcel (And.intro hb (And.intro hbk (And.intro hnext (And.intro hq hp))))))
   clear hbA hown0 hkA hl3 hl4 hl5 hown hcel hb hbk hnext hsn ecs hc hF hL hq hml hgo hp
   go_wp2_with (at_builtin; go_loud (refine wpList_append_row _ rfl (.tmp 50) (.tmp 51) 22 rfl wr.heap.size 29 j9 _ 11 168 Tryz.underlying22 hj9 hjz9 hjs9 hjb9 rfl (by omega) (.slice (some ⟨wr.heap.size, 0, none⟩) 1 1) 1 _ rfl HA.out.2.1 (Old w) B' p d' ys rfl HA.out.2.2.1 Hone.out (by omega) (by omega) (by rw [World.size_alloc]; omega) ?_))
   intro v6 w6 hown6 hg6 hat6
   have hlo6 : ∀ b, (Value.slice (some ⟨wr.heap.size, 0, none⟩) 1 1).ownBlock = some b → wr.heap.size ≤ b := fun b hb => by
    have e1 : wr.heap.size = b := Option.some.inj hb
    omega
   have hb6 : Below wr.heap.size wr w6 := HA.out.1.grown hg6 HA.out.1.size hlo6
   have hst := old_step (w := w) (ls := [r]) (us := [.int .i64 a0, .string a1, .slice a2 a3 a4, .slice a5 a6 a7, .int .i64 a8, .int .i64 a9, .float .f64 aa, .string ab, .slice ac ad ae, .slice af ag ah, .int .i64 ai]) (Q := ElemAt) (fun h k => h.keeps k) (Cells.one HA.out.2.2.2.2 rfl) (HI.out.2.2.1.trans (HA.out.1.mono HI.out.2.2.1.size)) (fun b hb => Nat.le_trans HI.out.2.2.1.size (hlo6 b hb)) hg6 HA.out.2.2.2.1
   obtain ⟨WA, wc, rfl, hwc1, hwc2⟩ := own_form hown6
   have hlt6 := hown6.lt
   have Ho6 := hide (And.intro hown6 (And.intro hst (And.intro hb6 hlt6)))
   have hsz6 : wr.heap.size ≤ w6.heap.size := hb6.size
   -- all = append(all, ..)
   have hbB : Below w6.heap.size w6 (w6.alloc (.cells #[.slice WA (1 + p) wc] 22)) := (Below.refl _ _).alloc (Nat.le_refl _) _
   have hb7 : Below wr.heap.size wr (w6.alloc (.cells #[.slice WA (1 + p) wc] 22)) := hb6.trans (hbB.mono hsz6)
   have hown7 := ownsRow_below HI.out.1 hb7 (Nat.le_refl _)
   have H7 := hide (And.intro hbB (And.intro hb7 hown7))
   have hn47 : q + 1 ≤ 5864062014805 := by omega
   have hn47' : (q + 1) * 24 ≤ 140737488351232 := by omega
   clear hown6 hg6 hat6 hlo6 hb6 hst hlt6 hbB hb7 hown7 HA Hone s0 s1 s2 s3 s4 s5 s6 s7 s8 s9 s10
   go_wp2_with (at_builtin; go_loud (refine wpList_append_row _ rfl (.tmp 48) (.tmp 53) 36 rfl w4.heap.size 22 i9 _ 1 24 Tryz.underlying36 hi9 hz9 hs9 hb9 rfl (by omega) (.slice oA q oc) q us rfl H7.out.2.2 (fun _ => True) (some ⟨w6.heap.size, 0, none⟩) 1 1 [.slice WA (1 + p) wc] rfl (Row.of_bkp (Bk.new w6 22 ([.slice WA (1 + p) wc] : List Value).toArray) rfl trivial) (by simp [Value.oneCell']) (by omega) (by omega) (by rw [World.size_alloc]; omega) ?_))
   intro v8 w8 hown8 hg8 hat8
   have hlo8 : ∀ b, (Value.slice oA q oc).ownBlock = some b → w4.heap.size ≤ b ∧ b < wr.heap.size := fun b hb => HI.out.1.lt b hb
   have hlen : (r :: l).length = 1 + p := by rw [List.length_cons, HI.out.2.2.2.2.2.2]; omega
   have hpath : PathAt (Off (w6.alloc (.cells #[.slice WA (1 + p) wc] 22)) (.slice oA q oc)) (w6.alloc (.cells #[.slice WA (1 + p) wc] 22)) (r :: l) WA wc := by
    have hrow := Row.of_own (F := Off (w6.alloc (.cells #[.slice WA (1 + p) wc] 22)) (.slice oA q oc)) (Ho6.out.1.alloc (.cells #[.slice WA (1 + p) wc] 22)) fun b hb => by
     have h1 := Ho6.out.2.2.2 b hb
     exact ⟨by rw [World.size_alloc]; omega, fun e => by have := (hlo8 b e).2; omega⟩
    refine ⟨by rw [hlen]; unfold R47; omega, by rw [hlen]; exact hwc1, hwc2, _, by rw [hlen]; exact hrow, Ho6.out.2.1.1.mono fun _ _ h => (h.keeps (Keeps.below H7.out.1 fun b hb => ?_)).mono fun b hb => ?_⟩
    ·have hb : b < w.heap.size := hb
     omega
    ·have hb : b < w.heap.size := hb
     exact ⟨by rw [World.size_alloc]; omega, fun e => by have := (hlo8 b e).1; omega⟩
   have hcel8 := off_step (s' := v8) (off_below HI.out.2.1 H7.out.2.1) (Cells.one ⟨WA, wc, by rw [hlen], hpath⟩ rfl : Cells 1 (PQ _ _) [r :: l] [.slice WA (1 + p) wc]) hg8 (by rw [World.size_alloc]; exact hat8)
   have hsz8 : w6.heap.size + 1 ≤ w8.heap.size := by have := hg8.size; rw [World.size_alloc] at this; exact this
   have hb8 : Below w.heap.size w w8 := (HI.out.2.2.1.trans (H7.out.2.1.mono HI.out.2.2.1.size)).grown hg8 (by rw [World.size_alloc]; omega) fun b e => by have := (hlo8 b e).1; omega
   have hbk8 : Bk w8 w.heap.size 29 #[.int .i64 a0, .string a1, .slice a2 a3 a4, .slice a5 a6 a7, .int .i64 a8, .int .i64 a9, .float .f64 aa, .string ab, .slice ac ad ae, .slice af ag ah, .int .i64 ai] := (HI.out.2.2.2.1.below H7.out.2.1 HI.out.2.2.2.1.lt).grown hg8 fun e => by have := (hlo8 _ e.symm).1; omega
   obtain ⟨nA, nc, rfl, _, _⟩ := own_form hown8
   have Hx := hide (show DLInv w w4.heap.size #[.int .i64 a0, .string a1, .slice a2 a3 a4, .slice a5 a6 a7, .int .i64 a8, .int .i64 a9, .float .f64 aa, .string ab, .slice ac ad ae, .slice af ag ah, .int .i64 ai] ls ms r (.slice nA (q + 1) nc) (.int .i64 ((k + 1 : Nat) : Int)) w8 from ⟨k + 1, us ++ [.slice WA (1 + p) wc], rfl, by rw [Hn.out.2]; omega, by rw [HI.out.2.2.2.2.1, List.length_append, HI.out.2.2.2.2.2.1]; exact hown8, by rw [HI.out.2.2.2.2.1]; exact hcel8, hb8, hbk8, by omega⟩)
   clear hown8 hg8 hat8 hlo8 hlen hpath hcel8 hb8 hbk8 Ho6 H7 HI
   go_wp2_with fail
   exact ⟨Hx.out, by simp [intOf]; omega⟩
  ·have hke : k = m := by omega
   subst hke
   have hki1 : ¬ ((k : Nat) : Int) < (k : Int) := by omega
   obtain ⟨s0, s1, s2, s3, s4, s5, s6, s7, s8, s9, s10⟩ := hbk.cells11
   have hL' : L = ls ++ moreL r ms := by rw [← hL, List.take_of_length_le (by rw [Hn.out.2]; exact Nat.le_refl _)]
   have hall : PathsAt (Old wr) wr (ls ++ moreL r ms) oA oc := by
    rw [hL'] at hcel hq
    refine ⟨by rw [hq]; unfold R47; omega, by rw [hq]; exact hoc1, hoc2, us, by rw [hq]; exact Row.of_own hown fun b hb => (hown.lt b hb).2, hcel.mono fun _ _ h => PQ.mono h fun b hb => hb.1⟩
   have hlall : (ls ++ moreL r ms).length = q := by rw [← hL']; exact hq
   have Hall := hide (And.intro hall hlall)
   have Hb := hide hb
   have HB2 := hide (HB1.out wr hb)
   clear hown hcel hb hbk hL hL' hq hall hml HB1 hlall hlt
   generalize (belowS r.elem (pels ms) (setP (pels ls))).paths.map (List.map E.toREl) = R1 at *
   go_wp2_with fail
   refine HB2.out.mono ?_
   rintro en w6 ⟨A6, c6, rfl, hp6, hb6⟩
   have HS := hide (setOf_calls (Hall.out.1.at_ hb6) HL1.out.1)
   rw [Hall.out.2] at HS
   have H6 := hide (And.intro (hp6.mono (G := Old w6) fun b hb => hb.2) (Hb.out.trans (hb6.mono Hb.out.size)))
   clear hp6 hb6 HB2 Hb Hall s0 s1 s2 s3 s4 s5 s6 s7 s8 s9 s10
   generalize (specS (pels (ls ++ moreL r ms))).map (List.map E.toREl) = ss at *
   go_wp2_with fail
   refine HS.out.mono ?_
   rintro en w7 ⟨A7, c7, rfl, hp7, hb7⟩
   have HQ := hide (listed_calls (H6.out.1.at_ hb7) (hp7.mono (G := Old w7) fun b hb => hb.2))
   rw [HL1.out.2] at HQ
   have H7 := hide (H6.out.2.trans (hb7.mono H6.out.2.size))
   clear hp7 hb7 HS H6
   go_wp2_with fail
   refine HQ.out.mono ?_
   rintro en w8 ⟨rfl, hb8⟩
   have H8 := hide (H7.out.trans (hb8.mono H7.out.size))
   clear hb8 HQ
   go_wp2
   go_ret
   exact ⟨rfl, H8.out⟩

end Go.Proofs.YtbicoknghdgahaaGreat
