/-
  The law FnWithPrefixHas, of every list of paths, every step and every path: it answers true and leaves what stood. No condition. Printed by genlawwph.py.
-/
import Derived.Test.YtajeghkjppkhcaaGreatLawWp
import Derived.Test.YtajeghkjppkhcaaGreatHasA
import Derived.Test.YtajeghkjppkhcaaGreatBothB
set_option linter.unusedVariables false
set_option linter.unusedSimpArgs false
namespace Go.Proofs.YtajeghkjppkhcaaGreat
open Go.RowKit
attribute [local go_sem] run_store_float

theorem path_ones {F : Nat → Prop} {w : World} {l : List REl} {xs : List Value} (h : Cells 11 (ElemAt F w) l xs) : ∀ u ∈ xs, u.oneCell' = true :=
  h.ones (by decide) fun a cs h => by
    obtain ⟨a0, a1, a2, a3, a4, a5, a6, a7, a8, a9, aa, ab, ac, ad, ae, af, ag, ah, ai, rfl⟩ := h.form
    simp [Value.oneCell']
/-- one path in a block of its own -/
theorem one_path {W W' : World} {l : List REl} {A : Option Addr} {c : Nat} (h : PathAt (Old W) W l A c) (hW : W' = W.alloc (.cells #[.slice A l.length c] 22)) : PathsAt (Old W') W' [l] (some ⟨W.heap.size, 0, none⟩) 1 := by
  subst hW
  have hb : Below W.heap.size W (W.alloc (.cells #[.slice A l.length c] 22)) := (Below.refl _ _).alloc (Nat.le_refl _) _
  exact ⟨by unfold R47; simp, by simp, by unfold maxLen; decide, [.slice A l.length c], Row.of_bkp (Bk.new W 22 [.slice A l.length c].toArray) rfl (by show W.heap.size < _; rw [World.size_alloc]; omega), Cells.one ⟨A, c, rfl, h.at_ hb⟩ rfl⟩

set_option maxRecDepth 100000 in
set_option maxHeartbeats 16000000 in
theorem withPrefixHasLaw {ls : List (List REl)} {r : REl} {l : List REl} {cs : List Value} {A B : Option Addr} {c d : Nat} {w : World} (h : PathsAt (Old w) w ls A c) (hr : ElemAt (Old w) w r cs) (hl : PathAt (Old w) w l B d) :
    Calls Tryz.prog 9 #[.slice A ls.length c, .agg cs.toArray, .slice B l.length d] w (LawPost w) := by
  have HZ := hide fun (W : World) (hb : Below w.heap.size w W) => zzFits13_calls r W cs (hr.at_ hb)
  have hl47 : l.length * 168 ≤ 140737488351232 := hl.1
  obtain ⟨i9, hi9, hz9, hs9, hb9⟩ := info_parts elem_info
  obtain ⟨a0, a1, a2, a3, a4, a5, a6, a7, a8, a9, aa, ab, ac, ad, ae, af, ag, ah, ai, rfl⟩ := hr.form
  have hbx : Below w.heap.size w (w.alloc (.cells #[.int .i64 a0, .string a1, .slice a2 a3 a4, .slice a5 a6 a7, .int .i64 a8, .int .i64 a9, .float .f64 aa, .string ab, .slice ac ad ae, .slice af ag ah, .int .i64 ai] 33)) := (Below.refl _ _).alloc (Nat.le_refl _) _
  have hbox := Bk.new w 33 #[.int .i64 a0, .string a1, .slice a2 a3 a4, .slice a5 a6 a7, .int .i64 a8, .int .i64 a9, .float .f64 aa, .string ab, .slice ac ad ae, .slice af ag ah, .int .i64 ai]
  obtain ⟨w1, hw1⟩ : ∃ w1, w.alloc (.cells #[.int .i64 a0, .string a1, .slice a2 a3 a4, .slice a5 a6 a7, .int .i64 a8, .int .i64 a9, .float .f64 aa, .string ab, .slice ac ad ae, .slice af ag ah, .int .i64 ai] 33) = w1 := ⟨_, rfl⟩
  rw [hw1] at hbx hbox
  have Hb := hide hbx
  have Hbk := hide hbox
  have H0 := hide (And.intro h (And.intro hr hl))
  obtain ⟨n, hn⟩ : ∃ n, ls.length = n := ⟨_, rfl⟩
  obtain ⟨m, hm⟩ : ∃ m, l.length = m := ⟨_, rfl⟩
  have Hn := hide (And.intro hn hm)
  rw [hn, hm]
  rw [hm] at hl47
  clear hbx hbox h hr hl hn hm
  by_cases hbig : 2147483647 < n
  · have gi1 : (2147483647 : Int) < (n : Int) := by omega
    have gd1 : decide ((2147483647 : Int) < (n : Int)) = true := decide_eq_true gi1
    go_enter Tryz.func9, Tryz.ntmps9
    go_wp2_with fail
    try rw [hw1]
    clear hw1
    go_wp2
    go_ret
    exact ⟨rfl, Hb.out⟩
  have gi1 : ¬ (2147483647 : Int) < (n : Int) := by omega
  have gd1 : decide ((2147483647 : Int) < (n : Int)) = false := decide_eq_false gi1
  have hn38 : n + 1 ≤ N38 := by unfold N38; omega
  go_enter Tryz.func9, Tryz.ntmps9
  go_upto_region 1 with fail
  try rw [hw1]
  clear hw1
  obtain ⟨s0, s1, s2, s3, s4, s5, s6, s7, s8, s9, s10⟩ := Hbk.out.cells11
  go_wp2_with fail
  refine (HZ.out _ Hb.out).mono ?_
  rintro e w2 ⟨⟨z, rfl⟩, hb2⟩
  have Hb2 := hide (Hb.out.trans (hb2.mono Hb.out.size))
  have Hbk2 := hide (Hbk.out.below hb2 Hbk.out.lt)
  have hbl := Hbk.out.lt
  have hw12 := hb2.size
  clear hb2 s0 s1 s2 s3 s4 s5 s6 s7 s8 s9 s10 Hb Hbk
  have Hb := Hb2
  have Hbk := Hbk2
  clear Hb2 Hbk2 HZ
  obtain ⟨s0, s1, s2, s3, s4, s5, s6, s7, s8, s9, s10⟩ := Hbk.out.cells11
  cases z
  · go_wp2
    go_ret
    exact ⟨rfl, Hb.out⟩
  by_cases hbig2 : 2147483647 < m
  · have gi2 : (2147483647 : Int) < (m : Int) := by omega
    have gd2 : decide ((2147483647 : Int) < (m : Int)) = true := decide_eq_true gi2
    go_wp2
    go_ret
    exact ⟨rfl, Hb.out⟩
  have gi2 : ¬ (2147483647 : Int) < (m : Int) := by omega
  have gd2 : decide ((2147483647 : Int) < (m : Int)) = false := decide_eq_false gi2
  -- whole := append(Path{e}, p...)
  have hbA : Below w2.heap.size w2 (w2.alloc (.cells #[.int .i64 a0, .string a1, .slice a2 a3 a4, .slice a5 a6 a7, .int .i64 a8, .int .i64 a9, .float .f64 aa, .string ab, .slice ac ad ae, .slice af ag ah, .int .i64 ai] 33)) := (Below.refl _ _).alloc (Nat.le_refl _) _
  have hown0 := World.ownsRow_lit (base := w2.heap.size) (e := 33) (size := 11) w2 #[.int .i64 a0, .string a1, .slice a2 a3 a4, .slice a5 a6 a7, .int .i64 a8, .int .i64 a9, .float .f64 aa, .string ab, .slice ac ad ae, .slice af ag ah, .int .i64 ai] 1 (by simp) (by simp [maxLen]) (by simp)
  have hkA : Keeps (Old w) w (w2.alloc (.cells #[.int .i64 a0, .string a1, .slice a2 a3 a4, .slice a5 a6 a7, .int .i64 a8, .int .i64 a9, .float .f64 aa, .string ab, .slice ac ad ae, .slice af ag ah, .int .i64 ai] 33)) := Keeps.below (Hb.out.trans (hbA.mono Hb.out.size)) fun _ h => h
  obtain ⟨_, hl2, hl3, xs, hl4, hl5⟩ := H0.out.2.2
  have HA := hide (And.intro hbA (And.intro hown0 (And.intro (show Row (Old w) _ 11 B m xs from by have := hl4.keeps hkA; rwa [Hn.out.2] at this) (And.intro (hl5.mono fun _ _ h => h.keeps hkA) (H0.out.2.1.keeps hkA)))))
  have Hone := hide (path_ones hl5)
  clear hbA hown0 hkA hl2 hl3 hl4 hl5
  go_wp2_with (at_builtin; go_loud (refine wpList_append_row _ rfl (.tmp 22) (.tmp 23) 22 rfl w2.heap.size 33 i9 _ 11 168 Tryz.underlying22 hi9 hz9 hs9 hb9 rfl (by omega) (.slice (some ⟨w2.heap.size, 0, none⟩) 1 1) 1 _ rfl HA.out.2.1 (Old w) B m d xs rfl HA.out.2.2.1 Hone.out (by omega) (by omega) (by rw [World.size_alloc]; omega) ?_))
  intro v3 w3 hown3 hg3 hat3
  have hst := old_step (w := w) (ls := [r]) (us := [.int .i64 a0, .string a1, .slice a2 a3 a4, .slice a5 a6 a7, .int .i64 a8, .int .i64 a9, .float .f64 aa, .string ab, .slice ac ad ae, .slice af ag ah, .int .i64 ai]) (Q := ElemAt) (fun h k => h.keeps k) (Cells.one HA.out.2.2.2.2 rfl) (Hb.out.trans (HA.out.1.mono Hb.out.size)) (fun b hb => by
    have e1 : w2.heap.size = b := Option.some.inj hb
    have := Hb.out.size
    omega) hg3 HA.out.2.2.2.1
  obtain ⟨WA, wc, rfl, hwc1, hwc2⟩ := own_form hown3
  have hlen1 : (r :: l).length = 1 + m := by rw [List.length_cons, Hn.out.2]; omega
  have hwhole : PathAt (Old w3) w3 (r :: l) WA wc := ⟨by rw [hlen1]; unfold R47; omega, by rw [hlen1]; exact hwc1, hwc2, _, by rw [hlen1]; exact Row.of_own hown3 fun b hb => (hown3.lt b hb).2, hst.1.mono fun _ _ h => h.mono fun b hb => Nat.lt_of_lt_of_le hb hst.2.size⟩
  have Hw := hide (And.intro hwhole hst.2)
  have Hlen := hide hlen1
  have Hbk3 := hide (show Bk w3 w.heap.size 33 #[.int .i64 a0, .string a1, .slice a2 a3 a4, .slice a5 a6 a7, .int .i64 a8, .int .i64 a9, .float .f64 aa, .string ab, .slice ac ad ae, .slice af ag ah, .int .i64 ai] from (Hbk.out.alloc _).grown hg3 (fun e => by
    have e1 : w2.heap.size = w.heap.size := Option.some.inj e.symm
    omega))
  have hsz3 : w2.heap.size ≤ w3.heap.size := by have := hg3.size; rw [World.size_alloc] at this; omega
  clear hown3 hg3 hat3 hst hwhole hlen1 HA Hone s0 s1 s2 s3 s4 s5 s6 s7 s8 s9 s10 Hb Hbk hw12 hwc1 hwc2
  have Hbk := Hbk3
  clear Hbk3
  by_cases hm0 : m = 0
  · have gm0 : ((m : Int) == 0) = true := by subst hm0; rfl
    subst hm0
    go_wp2
    go_ret
    exact ⟨rfl, Hw.out.2⟩
  have gm0 : ((m : Int) == 0) = false := beq_eq_false_iff_ne.2 (by omega)
  -- both(a, whole) is orderly
  have hbC : Below w3.heap.size w3 (w3.alloc (.cells #[.slice WA (1 + m) wc] 22)) := (Below.refl _ _).alloc (Nat.le_refl _) _
  have hone := one_path (W := w3) (l := r :: l) Hw.out.1 (by rw [Hlen.out])
  have hls := (H0.out.1.at_ Hw.out.2).at_ hbC
  have HB := hide (both_calls hls hone (by rw [Hn.out.1]; show (n + 1) * 24 ≤ R47; unfold R47 N38 at *; omega))
  rw [Hn.out.1, show ([r :: l] : List (List REl)).length = 1 from rfl] at HB
  have HbC := hide hbC
  clear hbC hone hls
  go_wp2_with fail
  refine HB.out.mono ?_
  rintro e w4 ⟨A4, c4, rfl, hp4, hb4⟩
  have hb4' := HbC.out.trans (hb4.mono HbC.out.size)
  have HT := hide (orderlyPaths_calls hp4)
  have H4 := hide (And.intro (Hw.out.2.trans (hb4'.mono Hw.out.2.size)) (And.intro (Hbk.out.below hb4' Hbk.out.lt) (Hw.out.1.at_ hb4')))
  clear hb4 hb4' hp4 HB HbC
  have hlen4 : (ls ++ [r :: l]).length = n + 1 := by rw [List.length_append, Hn.out.1]; rfl
  rw [hlen4] at HT ⊢
  clear hlen4
  go_wp2_with fail
  refine HT.out.mono ?_
  rintro e w5 ⟨t, rfl, ho, hb5⟩
  have Ho := hide ho
  have H5 := hide (And.intro (H4.out.1.trans (hb5.mono H4.out.1.size)) (And.intro (H4.out.2.1.below hb5 H4.out.2.1.lt) (H4.out.2.2.at_ hb5)))
  clear ho hb5 HT H4 Hw Hbk
  cases t
  · go_wp2
    go_ret
    exact ⟨rfl, H5.out.1⟩
  have hoall := Ho.out (by first | trivial | rfl)
  have hok : ∀ p ∈ pels ls, POk p := pels_all fun l' hl' => hoall l' (by simp [hl'])
  have hrl : POk (pel (r :: l)) := hoall (r :: l) (by simp)
  have he : r.elem.Ok := hrl r.elem (by simp [pel])
  have hpl : POk (pel l) := fun z hz => hrl z (by simp [pel] at hz ⊢; exact .inr hz)
  have hpl0 : pel l ≠ [] := fun e0 => hm0 (by rw [← Hn.out.2, ← pel_length l, e0]; rfl)
  have hsub := sub_pws (ls := ls) (e := r.elem)
  have hsubk := paths_pok (subK_wf (e := r.elem) (setP_wf hok))
  have heq : hasB (pel l) (setP (pels ((subK r.elem (setP (pels ls))).paths.map (List.map E.toREl)))) = hasB (pel (r :: l)) (setP (pels ls)) := by rw [pels_back hsub]; exact sub_hasB hok he hpl hpl0
  have hok2 : ∀ p ∈ pels (ls ++ [r :: l]), POk p := pels_all hoall
  have heq2 : hasB (pel l) (setP (pels ((subK r.elem (setP (pels (ls ++ [r :: l])))).paths.map (List.map E.toREl)))) = true := by
    rw [pels_back (sub_pws (ls := ls ++ [r :: l]) (e := r.elem)), show pels (ls ++ [r :: l]) = pels ls ++ [r.elem :: pel l] from by simp [pels, pel]]
    exact sub_put hok he hpl hpl0
  obtain ⟨rs, hrs⟩ : ∃ rs, (subK r.elem (setP (pels ls))).paths.map (List.map E.toREl) = rs := ⟨_, rfl⟩
  obtain ⟨rs2, hrs2⟩ : ∃ rs, (subK r.elem (setP (pels (ls ++ [r :: l])))).paths.map (List.map E.toREl) = rs := ⟨_, rfl⟩
  have hrok : ∀ p ∈ pels rs, POk p := by rw [← hrs, pels_back hsub]; exact hsubk
  have hrok2 : ∀ p ∈ pels rs2, POk p := by rw [← hrs2, pels_back (sub_pws (ls := ls ++ [r :: l]) (e := r.elem))]; exact paths_pok (subK_wf (e := r.elem) (setP_wf hok2))
  have hrn : rs.length ≤ N38 := by
    rw [← hrs, List.length_map]
    have q1 := subK_count (e := r.elem) (s := setP (pels ls))
    have q2 := setP_count (pels ls)
    have q3 : (pels ls).length = ls.length := List.length_map _
    have q4 := Hn.out.1
    omega
  have hrn2 : rs2.length ≤ N38 := by
    rw [← hrs2, List.length_map]
    have q1 := subK_count (e := r.elem) (s := setP (pels (ls ++ [r :: l])))
    have q2 := setP_count (pels (ls ++ [r :: l]))
    have q3 : (pels (ls ++ [r :: l])).length = (ls ++ [r :: l]).length := List.length_map _
    have q4 := Hn.out.1
    rw [List.length_append, List.length_singleton] at q3
    omega
  rw [hrs] at heq
  rw [hrs2] at heq2
  have C1 := hide fun (W : World) (hb : Below w.heap.size w W) => setWithPrefix_calls (H0.out.1.at_ hb) (H0.out.2.1.at_ hb) hok he (by rw [Hn.out.1]; omega)
  have C2 := hide fun (W : World) (hb : Below w.heap.size w W) (A' : Option Addr) (c' : Nat) (hp : PathsAt (Old W) W rs A' c') => implSetHas_calls hp (H0.out.2.2.at_ hb) hrok hpl hrn
  have C3 := hide fun (W : World) (hb : Below w.heap.size w W) (A' : Option Addr) (c' : Nat) (hp : PathAt (Old W) W (r :: l) A' c') => implSetHas_calls (H0.out.1.at_ hb) hp hok hrl (by rw [Hn.out.1]; omega)
  have C4 := hide fun (W : World) (hb : Below w.heap.size w W) (A' : Option Addr) (c' : Nat) (hp : PathsAt (Old W) W [r :: l] A' c') => both_calls (H0.out.1.at_ hb) hp (by rw [Hn.out.1]; show (n + 1) * 24 ≤ R47; unfold R47 N38 at *; omega)
  have C5 := hide fun (W : World) (hb : Below w.heap.size w W) (A' : Option Addr) (c' : Nat) (hp : PathsAt (Old W) W (ls ++ [r :: l]) A' c') => setWithPrefix_calls hp (H0.out.2.1.at_ hb) hok2 he (by rw [List.length_append, Hn.out.1]; exact hn38)
  have C6 := hide fun (W : World) (hb : Below w.heap.size w W) (A' : Option Addr) (c' : Nat) (hp : PathsAt (Old W) W rs2 A' c') => implSetHas_calls hp (H0.out.2.2.at_ hb) hrok2 hpl hrn2
  rw [hrs, Hn.out.1] at C1
  rw [heq, Hn.out.2] at C2
  rw [Hn.out.1, Hlen.out] at C3
  rw [Hn.out.1, show ([r :: l] : List (List REl)).length = 1 from rfl] at C4
  have hlen4 : (ls ++ [r :: l]).length = n + 1 := by rw [List.length_append, Hn.out.1]; rfl
  rw [hrs2, hlen4] at C5
  rw [heq2, Hn.out.2] at C6
  have Hl4 := hide hlen4
  obtain ⟨v, hv⟩ : ∃ v, hasB (pel (r :: l)) (setP (pels ls)) = v := ⟨_, rfl⟩
  rw [hv] at C2 C3
  obtain ⟨rn, hrnn⟩ : ∃ rn, rs.length = rn := ⟨_, rfl⟩
  obtain ⟨rn2, hrnn2⟩ : ∃ rn, rs2.length = rn := ⟨_, rfl⟩
  rw [hrnn] at C2
  rw [hrnn2] at C6
  have Hrn := hide (And.intro hrnn hrnn2)
  have hvv : (v == v) = true := by cases v <;> rfl
  clear hoall hok hrl he hpl hpl0 hsub hsubk heq hok2 heq2 hrs hrs2 hrok hrok2 hrn hrn2 hv hrnn hrnn2 hlen4 Ho
  go_wp2_with fail
  obtain ⟨S, hS⟩ : ∃ S, (fun W => Bk W w.heap.size 33 #[.int .i64 a0, .string a1, .slice a2 a3 a4, .slice a5 a6 a7, .int .i64 a8, .int .i64 a9, .float .f64 aa, .string ab, .slice ac ad ae, .slice af ag ah, .int .i64 ai]) = S := ⟨_, rfl⟩
  have hS0 : S w5.drew := by rw [← hS]; exact H5.out.2.1.drew
  refine wp_region_head 18 S (by rfl) (by kernel_rfl) ?_
  refine HT.take 0 (v := ?_) rfl (by kernel_rfl) (fun _ _ _ h => h) (Or.inl ⟨by rfl, ?_⟩) (by assumption) ?_
  rotate_left
  · intro W hSw; rw [← hS] at hSw; have hSw := show Bk W w.heap.size 33 #[.int .i64 a0, .string a1, .slice a2 a3 a4, .slice a5 a6 a7, .int .i64 a8, .int .i64 a9, .float .f64 aa, .string ab, .slice ac ad ae, .slice af ag ah, .int .i64 ai] from hSw; obtain ⟨s0, s1, s2, s3, s4, s5, s6, s7, s8, s9, s10⟩ := hSw.cells11; clear hSw; go_simp; with_reducible rfl
  simp only [Act.put, List.setIfInBounds_toArray, List.set_cons_zero, List.set_cons_succ]
  refine HT.take 1 (v := ?_) rfl (by kernel_rfl) (fun _ _ _ h => h) (Or.inl ⟨by rfl, ?_⟩) (by assumption) ?_
  rotate_left
  · intro W hSw; rw [← hS] at hSw; have hSw := show Bk W w.heap.size 33 #[.int .i64 a0, .string a1, .slice a2 a3 a4, .slice a5 a6 a7, .int .i64 a8, .int .i64 a9, .float .f64 aa, .string ab, .slice ac ad ae, .slice af ag ah, .int .i64 ai] from hSw; obtain ⟨s0, s1, s2, s3, s4, s5, s6, s7, s8, s9, s10⟩ := hSw.cells11; clear hSw; go_simp; with_reducible rfl
  simp only [Act.put, List.setIfInBounds_toArray, List.set_cons_zero, List.set_cons_succ]
  refine HT.take 3 (v := ?_) rfl (by kernel_rfl) (fun _ _ _ h => h) (Or.inl ⟨by rfl, ?_⟩) (by assumption) ?_
  rotate_left
  · intro W hSw; rw [← hS] at hSw; have hSw := show Bk W w.heap.size 33 #[.int .i64 a0, .string a1, .slice a2 a3 a4, .slice a5 a6 a7, .int .i64 a8, .int .i64 a9, .float .f64 aa, .string ab, .slice ac ad ae, .slice af ag ah, .int .i64 ai] from hSw; obtain ⟨s0, s1, s2, s3, s4, s5, s6, s7, s8, s9, s10⟩ := hSw.cells11; clear hSw; go_simp; with_reducible rfl
  simp only [Act.put, List.setIfInBounds_toArray, List.set_cons_zero, List.set_cons_succ]
  refine HT.take 5 (v := ?_) rfl (by kernel_rfl) (fun _ _ _ h => h) (Or.inl ⟨by rfl, ?_⟩) (by assumption) ?_
  rotate_left
  · intro W hSw; rw [← hS] at hSw; have hSw := show Bk W w.heap.size 33 #[.int .i64 a0, .string a1, .slice a2 a3 a4, .slice a5 a6 a7, .int .i64 a8, .int .i64 a9, .float .f64 aa, .string ab, .slice ac ad ae, .slice af ag ah, .int .i64 ai] from hSw; obtain ⟨s0, s1, s2, s3, s4, s5, s6, s7, s8, s9, s10⟩ := hSw.cells11; clear hSw; go_simp; with_reducible rfl
  simp only [Act.put, List.setIfInBounds_toArray, List.set_cons_zero, List.set_cons_succ]
  refine HT.take 6 (v := ?_) rfl (by kernel_rfl) (fun _ _ _ h => h) (Or.inl ⟨by rfl, ?_⟩) (by assumption) ?_
  rotate_left
  · intro W hSw; rw [← hS] at hSw; have hSw := show Bk W w.heap.size 33 #[.int .i64 a0, .string a1, .slice a2 a3 a4, .slice a5 a6 a7, .int .i64 a8, .int .i64 a9, .float .f64 aa, .string ab, .slice ac ad ae, .slice af ag ah, .int .i64 ai] from hSw; obtain ⟨s0, s1, s2, s3, s4, s5, s6, s7, s8, s9, s10⟩ := hSw.cells11; clear hSw; go_simp; with_reducible rfl
  simp only [Act.put, List.setIfInBounds_toArray, List.set_cons_zero, List.set_cons_succ]
  refine HT.one 2 rfl (by kernel_rfl) (by rfl) (fun K hK => ?_)
  go_simp
  refine (C1.out _ (below_drew H5.out.1)).mono ?_
  rintro en w6 ⟨A6, c6, rfl, hp6, hb6⟩
  have hb6' : Below w5.heap.size w5 w6 := below_drew' hb6
  have hS6 : S w6 := by rw [← hS]; exact H5.out.2.1.drew.below hb6 H5.out.2.1.lt
  have H6 := hide (And.intro (H5.out.1.trans (hb6'.mono H5.out.1.size)) (And.intro (hp6.mono (G := Old w6) fun b hb => hb.2) (H5.out.2.2.at_ hb6')))
  rw [Hrn.out.1]
  clear hp6 hb6 hb6' C1 H5
  go_simp
  refine hK.out _ _ hS6 ?_
  clear hK K
  refine HT.one 4 rfl (by kernel_rfl) (by rfl) (fun K hK => ?_)
  go_simp
  refine (C2.out w6 H6.out.1 A6 c6 H6.out.2.1).mono ?_
  rintro en w7 ⟨rfl, hb7⟩
  have hS7 : S w7 := by rw [← hS] at hS6 ⊢; exact hS6.below hb7 hS6.lt
  have H7 := hide (And.intro (H6.out.1.trans (hb7.mono H6.out.1.size)) (H6.out.2.2.at_ hb7))
  clear hb7 C2 H6
  go_simp
  refine hK.out _ _ hS7 ?_
  clear hK K
  refine HT.one 7 rfl (by kernel_rfl) (by rfl) (fun K hK => ?_)
  go_simp
  refine (C3.out w7 H7.out.1 WA wc H7.out.2).mono ?_
  rintro en w8 ⟨rfl, hb8⟩
  have hS8 : S w8 := by rw [← hS] at hS7 ⊢; exact hS7.below hb8 hS7.lt
  have H8 := hide (And.intro (H7.out.1.trans (hb8.mono H7.out.1.size)) (H7.out.2.at_ hb8))
  clear hb8 C3 H7
  go_simp
  refine hK.out _ _ hS8 ?_
  clear hK K
  refine HT.take 8 (v := ?_) rfl (by kernel_rfl) (fun _ _ _ h => h) (Or.inl ⟨by rfl, ?_⟩) (by assumption) ?_
  rotate_left
  · intro W hSw; rw [← hS] at hSw; have hSw := show Bk W w.heap.size 33 #[.int .i64 a0, .string a1, .slice a2 a3 a4, .slice a5 a6 a7, .int .i64 a8, .int .i64 a9, .float .f64 aa, .string ab, .slice ac ad ae, .slice af ag ah, .int .i64 ai] from hSw; obtain ⟨s0, s1, s2, s3, s4, s5, s6, s7, s8, s9, s10⟩ := hSw.cells11; clear hSw; go_simp; with_reducible rfl
  simp only [Act.put, List.setIfInBounds_toArray, List.set_cons_zero, List.set_cons_succ]
  refine HT.take 9 (v := ?_) rfl (by kernel_rfl) (fun _ _ _ h => h) (Or.inl ⟨by rfl, ?_⟩) (by assumption) ?_
  rotate_left
  · intro W hSw; rw [← hS] at hSw; have hSw := show Bk W w.heap.size 33 #[.int .i64 a0, .string a1, .slice a2 a3 a4, .slice a5 a6 a7, .int .i64 a8, .int .i64 a9, .float .f64 aa, .string ab, .slice ac ad ae, .slice af ag ah, .int .i64 ai] from hSw; obtain ⟨s0, s1, s2, s3, s4, s5, s6, s7, s8, s9, s10⟩ := hSw.cells11; clear hSw; go_simp; with_reducible rfl
  simp only [Act.put, List.setIfInBounds_toArray, List.set_cons_zero, List.set_cons_succ]
  refine HT.take 10 (v := ?_) rfl (by kernel_rfl) (fun _ _ _ h => h) (Or.inl ⟨by rfl, ?_⟩) (by assumption) ?_
  rotate_left
  · intro W hSw; rw [← hS] at hSw; have hSw := show Bk W w.heap.size 33 #[.int .i64 a0, .string a1, .slice a2 a3 a4, .slice a5 a6 a7, .int .i64 a8, .int .i64 a9, .float .f64 aa, .string ab, .slice ac ad ae, .slice af ag ah, .int .i64 ai] from hSw; obtain ⟨s0, s1, s2, s3, s4, s5, s6, s7, s8, s9, s10⟩ := hSw.cells11; clear hSw; go_simp; with_reducible rfl
  simp only [Act.put, List.setIfInBounds_toArray, List.set_cons_zero, List.set_cons_succ]
  refine HT.take 11 (v := ?_) rfl (by kernel_rfl) (fun _ _ _ h => h) (Or.inl ⟨by rfl, ?_⟩) (by assumption) ?_
  rotate_left
  · intro W hSw; rw [← hS] at hSw; have hSw := show Bk W w.heap.size 33 #[.int .i64 a0, .string a1, .slice a2 a3 a4, .slice a5 a6 a7, .int .i64 a8, .int .i64 a9, .float .f64 aa, .string ab, .slice ac ad ae, .slice af ag ah, .int .i64 ai] from hSw; obtain ⟨s0, s1, s2, s3, s4, s5, s6, s7, s8, s9, s10⟩ := hSw.cells11; clear hSw; go_simp; with_reducible rfl
  simp only [Act.put, List.setIfInBounds_toArray, List.set_cons_zero, List.set_cons_succ]
  refine HT.take 14 (v := ?_) rfl (by kernel_rfl) (fun _ _ _ h => h) (Or.inl ⟨by rfl, ?_⟩) (by assumption) ?_
  rotate_left
  · intro W hSw; rw [← hS] at hSw; have hSw := show Bk W w.heap.size 33 #[.int .i64 a0, .string a1, .slice a2 a3 a4, .slice a5 a6 a7, .int .i64 a8, .int .i64 a9, .float .f64 aa, .string ab, .slice ac ad ae, .slice af ag ah, .int .i64 ai] from hSw; obtain ⟨s0, s1, s2, s3, s4, s5, s6, s7, s8, s9, s10⟩ := hSw.cells11; clear hSw; go_simp; with_reducible rfl
  simp only [Act.put, List.setIfInBounds_toArray, List.set_cons_zero, List.set_cons_succ]
  refine HT.take 16 (v := ?_) rfl (by kernel_rfl) (fun _ _ _ h => h) (Or.inl ⟨by rfl, ?_⟩) (by assumption) ?_
  rotate_left
  · intro W hSw; rw [← hS] at hSw; have hSw := show Bk W w.heap.size 33 #[.int .i64 a0, .string a1, .slice a2 a3 a4, .slice a5 a6 a7, .int .i64 a8, .int .i64 a9, .float .f64 aa, .string ab, .slice ac ad ae, .slice af ag ah, .int .i64 ai] from hSw; obtain ⟨s0, s1, s2, s3, s4, s5, s6, s7, s8, s9, s10⟩ := hSw.cells11; clear hSw; go_simp; with_reducible rfl
  simp only [Act.put, List.setIfInBounds_toArray, List.set_cons_zero, List.set_cons_succ]
  refine HT.one 12 rfl (by kernel_rfl) (by rfl) (fun K hK => ?_)
  go_simp
  have hbC : Below w8.heap.size w8 (w8.alloc (.cells #[.slice WA (1 + m) wc] 22)) := (Below.refl _ _).alloc (Nat.le_refl _) _
  have hone := one_path (W := w8) (l := r :: l) H8.out.2 (by rw [Hlen.out])
  have hS9 : S (w8.alloc (.cells #[.slice WA (1 + m) wc] 22)) := by rw [← hS] at hS8 ⊢; exact hS8.alloc _
  have HB := hide (C4.out _ (H8.out.1.trans (hbC.mono H8.out.1.size)) _ _ hone)
  have H9 := hide (H8.out.1.trans (hbC.mono H8.out.1.size))
  clear hbC hone C4 H8
  refine hK.out _ _ hS9 ?_
  clear hK K
  refine HT.one 13 rfl (by kernel_rfl) (by rfl) (fun K hK => ?_)
  go_simp
  refine HB.out.mono ?_
  rintro en wa ⟨Aa, ca, rfl, hpa, hba⟩
  have hSa : S wa := by rw [← hS] at hS9 ⊢; exact hS9.below hba hS9.lt
  have Ha := hide (And.intro (H9.out.trans (hba.mono H9.out.size)) hpa)
  rw [Hl4.out]
  clear hba hpa HB H9
  go_simp
  refine hK.out _ _ hSa ?_
  clear hK K
  refine HT.one 15 rfl (by kernel_rfl) (by rfl) (fun K hK => ?_)
  go_simp
  refine (C5.out wa Ha.out.1 Aa ca Ha.out.2).mono ?_
  rintro en wb ⟨Ab, cb, rfl, hpb, hbb⟩
  have hSb : S wb := by rw [← hS] at hSa ⊢; exact hSa.below hbb hSa.lt
  have Hb := hide (And.intro (Ha.out.1.trans (hbb.mono Ha.out.1.size)) (hpb.mono (G := Old wb) fun b hb => hb.2))
  rw [Hrn.out.2]
  clear hpb hbb C5 Ha
  go_simp
  refine hK.out _ _ hSb ?_
  clear hK K
  refine HT.one 17 rfl (by kernel_rfl) (by rfl) (fun K hK => ?_)
  go_simp
  refine (C6.out wb Hb.out.1 Ab cb Hb.out.2).mono ?_
  rintro en wc' ⟨rfl, hbc⟩
  have hSc : S wc' := by rw [← hS] at hSb ⊢; exact hSb.below hbc hSb.lt
  have Hc := hide (Hb.out.1.trans (hbc.mono Hb.out.1.size))
  clear hbc C6 Hb
  go_simp
  refine hK.out _ _ hSc ?_
  clear hK K
  refine HT.done (by kernel_rfl) ?_
  simp only [List.drop_succ_cons, List.drop_zero]
  clear hS0 hS6 hS7 hS8 hS9 hSa hSb hSc hS
  go_wp2
  go_ret
  exact ⟨rfl, Hc.out⟩

end Go.Proofs.YtajeghkjppkhcaaGreat
