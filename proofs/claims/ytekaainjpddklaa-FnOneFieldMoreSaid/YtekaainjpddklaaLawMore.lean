/-
  The law FnOneFieldMore, of every two values and key: it answers true and leaves what stood.
-/
import Derived.Test.YtekaainjpddklaaField
import Derived.Test.YtekaainjpddklaaOneP
set_option linter.unusedVariables false
set_option linter.unusedSimpArgs false
namespace Go.Proofs.Ytekaainjpddklaa
open Go.RowKit
attribute [local go_sem] run_store_float

theorem RVAt.fieldsRow {F : Nat → Prop} {w : World} {m : List (ByteArray × RV)} {cs : List Value} (h : RVAt F w (fieldsRV m) cs) :
    ∃ KA kc LA lc, cs = [.int .i64 6, .int .i64 0, .float .f64 0, .string ⟨#[]⟩, .slice KA m.length kc, .slice LA m.length lc] ∧ Row F w 1 KA m.length (m.map fun p => Value.string p.1) ∧ m.length * 16 ≤ R47 := by
  unfold fieldsRV at h
  generalize hk : m.map Prod.fst = keys at h
  generalize hv : m.map Prod.snd = vals at h
  have e1 : keys.length = m.length := by rw [← hk]; simp
  have e2 : vals.length = m.length := by rw [← hv]; simp
  cases h with
  | @mk _ _ _ _ _ _ KA LA kc lc xs h1 h2 h3 h4 h5 h6 h7 h8 h9 h10 h11 hK hL hx =>
  refine ⟨KA, kc, LA, lc, by rw [e1, e2], ?_, by rw [← e1]; exact h6⟩
  rw [← e1]
  have : (m.map fun p => Value.string p.1) = keys.map Value.string := by rw [← hk]; simp
  rw [this]
  exact hK

/-- behind the plain form of the map: the box of the other value, and the map's own -/
structure WM (w1 : World) (xb : Nat) (b0 b1 b2 b3 b4 b5 c0 c1 c2 c3 c4 c5 : Value) (W : World) : Prop where
  below : Below w1.heap.size w1 W
  size : w1.heap.size + 1 ≤ W.heap.size
  b : Bx W xb b0 b1 b2 b3 b4 b5
  c : Bx W w1.heap.size c0 c1 c2 c3 c4 c5
section
variable {w1 W W' : World} {xb : Nat} {b0 b1 b2 b3 b4 b5 c0 c1 c2 c3 c4 c5 : Value}
theorem WM.call (h : WM w1 xb b0 b1 b2 b3 b4 b5 c0 c1 c2 c3 c4 c5 W) (hx : xb < w1.heap.size) (hb : Below W.heap.size W W') : WM w1 xb b0 b1 b2 b3 b4 b5 c0 c1 c2 c3 c4 c5 W' := by
  have := h.size
  exact ⟨h.below.trans (hb.mono h.below.size), Nat.le_trans h.size hb.size, h.b.below hb (by omega), h.c.below hb (by omega)⟩
end

theorem more_facts {k : ByteArray} {l0 : List (ByteArray × T)} {m : List (ByteArray × RV)} (hm : m = l0.map fun p => (p.1, p.2.toRV)) (hws : (T.map l0).WS) (hok : (fieldsRV m).tree.Ok) (hsm : Sorted m) (hfd : found k m = false) {x : T} (hx : x.WS) :
    T.cmpM (fieldsRV (ins k x.toRV m)).flds (fieldsRV m).flds = (if l0.any (fun p => klt k p.1) then -1 else 1) ∧ T.cmpM (fieldsRV m).flds (fieldsRV (ins k x.toRV m)).flds = (if l0.any (fun p => klt k p.1) then 1 else -1) ∧
      T.eqvM (fieldsRV m).flds (fieldsRV (ins k x.toRV m)).flds = false := by
  have hn := found_not hsm hfd
  subst hm
  rw [more_eq, flds_map (more_ws hws hx)]
  rw [← toRV_fields, flds_map hws]
  rw [← toRV_fields, toRV_tree hws] at hok
  have hn' : k ∉ l0.map Prod.fst := by
    rw [List.map_map] at hn
    exact hn
  have hs : Sorted l0 := by cases hws with | map h _ => exact h
  have := cmpM_ins (v := x) hs hn' (ok_fields' hok)
  exact ⟨this.1, this.2, eqvM_ins hn'⟩
theorem any_none {k : ByteArray} {l0 : List (ByteArray × T)} {m : List (ByteArray × RV)} (hm : m = l0.map fun p => (p.1, p.2.toRV)) (h : m.length = 0) : l0.any (fun p => klt k p.1) = false := by
  subst hm
  rw [List.length_map] at h
  rw [List.length_eq_zero_iff.1 h]
  rfl
theorem any_some {k : ByteArray} {l0 : List (ByteArray × T)} {m : List (ByteArray × RV)} (hm : m = l0.map fun p => (p.1, p.2.toRV)) (hws : (T.map l0).WS) {d : Nat} (hd : d < m.length) (hl : d + 1 = m.length) : l0.any (fun p => klt k p.1) = Op.bytesLess k.toList (m[d]).1.toList := by
  subst hm
  have hs : Sorted l0 := by cases hws with | map h _ => exact h
  rw [List.length_map] at hl
  rw [any_at hs (by omega)]
  have e : l0.length - 1 = d := by omega
  simp only [e, List.getElem_map]
  rfl

theorem bytes_gt (a b : ByteArray) : Op.bytesLess b.toList a.toList = (!Op.bytesLess a.toList b.toList && !(a.toList == b.toList)) := by
  change klt b a = (!klt a b && !(a.toList == b.toList))
  rcases klt_total a b with rfl | h | h
  · simp [klt_irrefl]
  · rw [h, klt_asymm h]
    rfl
  · have hne : ¬ a.toList = b.toList := fun e => klt_ne h (bytes_ext (by rw [Lib.toList_data, Lib.toList_data] at e; simpa using e)).symm
    rw [h, klt_asymm h]
    simpa using hne

/-- before the store of the map with one field more: its box p, and the struct -/
structure SN (w1 : World) (xb p : Nat) (b0 b1 b2 b3 b4 b5 c0 c1 c2 c3 c4 c5 n4 n5 : Value) (rm : RV) (W : World) : Prop where
  sm : WM w1 xb b0 b1 b2 b3 b4 b5 c0 c1 c2 c3 c4 c5 W
  pb : w1.heap.size < p
  bk : Bk W p 26 #[.int .i64 0, .int .i64 0, .float .f64 0, .string ⟨#[]⟩, .slice none 0 0, .slice none 0 0]
  rv : RVAt (fun b => b ≠ p ∧ b < W.heap.size) W rm [.int .i64 6, .int .i64 0, .float .f64 0, .string ⟨#[]⟩, n4, n5]
/-- behind it -/
structure SF (w1 : World) (p : Nat) (c0 c1 c2 c3 c4 c5 n0 n1 n2 n3 n4 n5 : Value) (rm : RV) (W : World) : Prop where
  below : Below w1.heap.size w1 W
  c : Bx W w1.heap.size c0 c1 c2 c3 c4 c5
  n : Bx W p n0 n1 n2 n3 n4 n5
  rv : RVAt (Old W) W rm [n0, n1, n2, n3, n4, n5]
  size : w1.heap.size < p ∧ p < W.heap.size
section
variable {w1 W W' : World} {xb p : Nat} {b0 b1 b2 b3 b4 b5 c0 c1 c2 c3 c4 c5 n0 n1 n2 n3 n4 n5 : Value} {rm : RV}
theorem SF.call (h : SF w1 p c0 c1 c2 c3 c4 c5 n0 n1 n2 n3 n4 n5 rm W) (hb : Below W.heap.size W W') : SF w1 p c0 c1 c2 c3 c4 c5 n0 n1 n2 n3 n4 n5 rm W' := by
  have hs := h.size
  have := hb.size
  exact ⟨h.below.trans (hb.mono (by omega)), h.c.below hb (by omega), h.n.below hb (by omega), h.rv.at_ hb, by omega, by omega⟩
theorem SN.store (h : SN w1 xb p b0 b1 b2 b3 b4 b5 c0 c1 c2 c3 c4 c5 n4 n5 rm W) : SF w1 p c0 c1 c2 c3 c4 c5 (.int .i64 6) (.int .i64 0) (.float .f64 0) (.string ⟨#[]⟩) n4 n5 rm (set6 W p (.int .i64 6) (.int .i64 0) (.float .f64 0) (.string ⟨#[]⟩) n4 n5) := by
  have hp := h.pb
  have hlt := h.bk.lt
  have hc : ∀ i, (set6 W p (.int .i64 6) (.int .i64 0) (.float .f64 0) (.string ⟨#[]⟩) n4 n5).cell? ⟨w1.heap.size, i, none⟩ = W.cell? ⟨w1.heap.size, i, none⟩ := fun i => by
    unfold World.cell?
    rw [set6_heap _ _ _ _ _ _ _ _ _ (show w1.heap.size ≠ p by omega)]
  refine ⟨set6_below _ _ _ _ _ _ h.sm.below (by omega), ⟨(hc 0).trans h.sm.c.k0, (hc 1).trans h.sm.c.k1, (hc 2).trans h.sm.c.k2, (hc 3).trans h.sm.c.k3, (hc 4).trans h.sm.c.k4, (hc 5).trans h.sm.c.k5⟩,
    Bx.of (set6_same _ _ _ _ _ _ h.bk), ?_, hp, by rw [set6_size]; exact hlt⟩
  exact (h.rv.keeps fun b hb => set6_heap _ _ _ _ _ _ _ _ _ hb.1).mono fun b hb => by rw [Old, set6_size]; exact hb.2
end

theorem zz5_calls (r : RV) (w : World) (cs : List Value) (h : RVAt (Old w) w r cs) : Calls Try.prog 15 #[.agg cs.toArray] w (GivesBound (∀ l0, r.tree = .map l0 → l0.length ≤ 2147483647) w) := by
  obtain ⟨kind, n, f, s, keys, l⟩ := r
  refine (zzFits5_calls kind n f s keys l w cs h).mono ?_
  rintro e w' ⟨b, h1, h2, h3⟩
  exact ⟨b, h1, fun hb l0 hl => Nat.le_trans (tree_len rfl hl) (h2 hb).2, h3⟩

set_option maxRecDepth 100000 in
set_option maxHeartbeats 8000000 in
theorem moreLaw (r1 r2 : RV) (key : ByteArray) (w : World) (cs1 cs2 : List Value) (hkey : key.size ≤ R47) (h1 : RVAt (Old w) w r1 cs1) (h2 : RVAt (Old w) w r2 cs2) :
    Calls Try.prog 11 #[.agg cs1.toArray, .string key, .agg cs2.toArray] w (LawPost w) := by
  have hks : key.size ≤ 140737488351232 := hkey
  have HZ1 := hide fun (W : World) (hb : Below w.heap.size w W) => zz5_calls r1 W cs1 (h1.at_ hb)
  have HZ2 := hide fun (W : World) (hb : Below w.heap.size w W) => fits_calls r2 W cs2 (h2.at_ hb)
  have HCl := hide fun (W : World) (hb : Below w.heap.size w W) => clean_calls r1 W cs1 (h1.at_ hb)
  have H2 := hide h2
  have Hkey := hide hkey
  obtain ⟨a0, a1, a2, a3, a4, a5, rfl⟩ := h1.six
  obtain ⟨b0, b1, b2, b3, b4, b5, rfl⟩ := h2.six
  clear h1 h2 hkey
  go_enter Try.func11, Try.ntmps11
  go_wp2_with fail
  have st := W2.made w 26 a0 a1 a2 a3 a4 a5 b0 b1 b2 b3 b4 b5
  generalize World.alloc _ _ = W at st ⊢
  obtain ⟨p0, p1, p2, p3, p4, p5⟩ := st.a
  obtain ⟨q0, q1, q2, q3, q4, q5⟩ := st.b
  go_wp2_with fail
  refine (HZ1.out _ st.below).mono ?_
  rintro e w1 ⟨b, rfl, hbd, hb⟩
  clear p0 p1 p2 p3 p4 p5 q0 q1 q2 q3 q4 q5
  replace st := st.call hb
  clear hb
  obtain ⟨p0, p1, p2, p3, p4, p5⟩ := st.a
  obtain ⟨q0, q1, q2, q3, q4, q5⟩ := st.b
  cases b
  · go_wp2
    go_ret
    exact ⟨rfl, st.below⟩
  have Hbd : Hid (∀ l0, r1.tree = .map l0 → l0.length ≤ 2147483647) := hide (hbd rfl)
  clear hbd
  by_cases hk2 : (2147483647 : Int) < (key.size : Int)
  · go_wp2
    go_ret
    exact ⟨rfl, st.below⟩
  go_wp2_with fail
  refine (HZ2.out _ st.below).mono ?_
  rintro e w2 ⟨⟨b, rfl⟩, hb⟩
  clear p0 p1 p2 p3 p4 p5 q0 q1 q2 q3 q4 q5
  replace st := st.call hb
  clear hb
  obtain ⟨p0, p1, p2, p3, p4, p5⟩ := st.a
  obtain ⟨q0, q1, q2, q3, q4, q5⟩ := st.b
  cases b
  · go_wp2
    go_ret
    exact ⟨rfl, st.below⟩
  go_wp2_with fail
  refine (HCl.out _ st.below).mono ?_
  rintro e w3 ⟨mcs, rfl, hrm, hb⟩
  clear p0 p1 p2 p3 p4 p5 q0 q1 q2 q3 q4 q5
  replace hrm : RVAt (Old w3) w3 r1.tree.toRV mcs := hrm.mono fun b hb => by
    rcases hb with hb | hb
    · cases hb
    · exact hb.2
  replace st := st.call hb
  clear hb
  by_cases hmap : ∃ l0, r1.tree = .map l0
  rotate_left
  · generalize hrm' : r1.tree.toRV = rm at hrm
    have hbw := st.below
    cases hrm with
    | @mk kd n' f' s' keys' l' KA LA kc lc xs h1 h2 h3 h4 h5 h6 h7 h8 h9 h10 h11 hK hL hx =>
    have hkd : ¬ kd = 6 := fun e => hmap (toRV_six hrm' e)
    have e6 : (kd == 6) = false := by simpa using hkd
    clear h1 h2 h3 h4 h5 h6 h7 h8 h9 h10 h11 hK hL hx hrm'
    have Hst := hide st
    clear st hbw
    go_wp2
    go_ret
    exact ⟨rfl, Hst.out.below.alloc Hst.out.below.size _⟩
  · obtain ⟨l0, hl0⟩ := hmap
    have hlen := Hbd.out l0 hl0
    have hws := tree_ws r1
    rw [hl0, toRV_fields] at hrm
    rw [hl0] at hws
    obtain ⟨m, hm⟩ : ∃ m, m = l0.map (fun p => (p.1, p.2.toRV)) := ⟨_, rfl⟩
    rw [← hm] at hrm
    have hml : m.length = l0.length := by rw [hm]; simp
    have hsm : Sorted m := by
      rw [hm]
      cases hws with
      | map hs _ => exact List.pairwise_map.2 hs
    obtain ⟨KA, kc, LA, lc, rfl, hK, h16⟩ := hrm.fieldsRow
    have Hp : Hid (m = l0.map (fun p => (p.1, p.2.toRV)) ∧ Sorted m ∧ (T.map l0).WS ∧ l0.length ≤ 2147483647 ∧ m.length = l0.length) := hide ⟨hm, hsm, hws, hlen, hml⟩
    have HM := hide hrm
    have HK := hide (And.intro hK h16)
    have hmb : m.length ≤ 2147483647 := by omega
    have HCx := hide fun (W : World) (hb : Below w.heap.size w W) => clean_calls r2 W [b0, b1, b2, b3, b4, b5] (H2.out.at_ hb)
    clear hrm hK h16 hm hsm hws hlen hml Hbd HZ1 HZ2 HCl
    have hxb : w.heap.size + 1 < w3.heap.size := by have := st.size; omega
    go_wp2_with fail
    have sm : WM w3 (w.heap.size + 1) b0 b1 b2 b3 b4 b5 (.int .i64 6) (.int .i64 0) (.float .f64 0) (.string ⟨#[]⟩) (.slice KA m.length kc) (.slice LA m.length lc) (w3.alloc (.cells #[.int .i64 6, .int .i64 0, .float .f64 0, .string ⟨#[]⟩, .slice KA m.length kc, .slice LA m.length lc] 26)) :=
      ⟨(Below.refl _ _).alloc (Nat.le_refl _) _, by simp, st.b.below ((Below.refl _ _).alloc (Nat.le_refl _) _) hxb, Bx.of (Bk.new _ _ _)⟩
    generalize (w3.alloc _) = W3 at sm ⊢
    have hw3 := st.below
    have Hw : Hid (∀ W', Below w3.heap.size w3 W' → Below w.heap.size w W') := hide fun W' hb => hw3.trans (hb.mono hw3.size)
    clear st hw3
    refine (orderly_all (fieldsRV m) W3 _ (HM.out.at_ sm.below)).mono ?_
    rintro e w4 ⟨b, rfl, hord, hb⟩
    replace sm := sm.call hxb hb
    clear hb
    obtain ⟨p0, p1, p2, p3, p4, p5⟩ := sm.c
    cases b
    · clear hord
      go_wp2
      go_ret
      exact ⟨rfl, Hw.out _ sm.below⟩
    have Hok : Hid (fieldsRV m).tree.Ok := hide (hord rfl)
    clear hord
    obtain ⟨fb, hfb⟩ : ∃ fb, found key m = fb := ⟨_, rfl⟩
    have Hf := field_calls m Hp.out.2.1 w4 key _ (HM.out.at_ sm.below)
    rw [hfb] at Hf
    have Hfb := hide hfb
    have Hf := hide Hf
    clear hfb
    go_wp2_with fail
    refine Hf.out.mono ?_
    rintro e w5 ⟨k', n', f', s', KA', kl', kc', LA', ll', lc', rfl, hb⟩
    clear p0 p1 p2 p3 p4 p5 Hf
    replace sm := sm.call hxb hb
    clear hb
    obtain ⟨p0, p1, p2, p3, p4, p5⟩ := sm.c
    cases fb
    rotate_left
    · go_wp2
      go_ret
      exact ⟨rfl, Hw.out _ (sm.below.alloc sm.below.size _)⟩
    have HQ : Hid (∀ x : T, x.WS → _) := hide fun x hx => more_facts Hp.out.1 Hp.out.2.2.1 Hok.out Hp.out.2.1 Hfb.out (x := x) hx
    have HX := HQ.out r2.tree (tree_ws r2)
    obtain ⟨rl, hrl⟩ : ∃ rl, rl = fieldsRV (ins key r2.tree.toRV m) := ⟨_, rfl⟩
    rw [← hrl] at HX
    have Hrl := hide hrl
    clear HQ hrl
    have HW : (m.length = 0 ∧ l0.any (fun p => klt key p.1) = false) ∨ (∃ (d : Nat) (hd : d < m.length), d + 1 = m.length ∧ l0.any (fun p => klt key p.1) = Op.bytesLess key.toList (m[d]).1.toList) := by
      rcases Nat.eq_zero_or_pos m.length with hz | hpos
      · exact .inl ⟨hz, any_none Hp.out.1 hz⟩
      · exact .inr ⟨m.length - 1, by omega, by omega, any_some Hp.out.1 Hp.out.2.2.1 (by omega) (by omega)⟩
    have h35 : w3.heap.size < w5.heap.size := sm.size
    have h25 : w.heap.size + 1 < w5.heap.size := by omega
    rcases HW with ⟨hz, ha⟩ | ⟨d, hd, hdl, ha⟩
    · rw [ha] at HX
      simp at HX
      have HX := hide HX
      have hz0 : ¬ (0 : Int) < (m.length : Int) := by omega
      have Hz := hide hz
      clear hz ha
      go_wp2_with fail
      have s6 : WM w3 (w.heap.size + 1) b0 b1 b2 b3 b4 b5 (.int .i64 6) (.int .i64 0) (.float .f64 0) (.string ⟨#[]⟩) (.slice KA m.length kc) (.slice LA m.length lc) (w5.alloc (.cells #[.int .i64 k', .int .i64 n', .float .f64 f', .string s', .slice KA' kl' kc', .slice LA' ll' lc'] 26)) := sm.call hxb ((Below.refl _ _).alloc (Nat.le_refl _) _)
      generalize (w5.alloc _) = w6 at s6 ⊢
      clear sm p0 p1 p2 p3 p4 p5 h35 h25
      replace s6 := s6.call hxb (below_drew (Below.refl _ _))
      have hS0 := s6
      generalize hS : WM w3 (w.heap.size + 1) b0 b1 b2 b3 b4 b5 (.int .i64 6) (.int .i64 0) (.float .f64 0) (.string ⟨#[]⟩) (.slice KA m.length kc) (.slice LA m.length lc) = S at hS0
      refine wp_region_head 6 S (by rfl) (by kernel_rfl) ?_
      refine HT.take 0 (v := ?_) rfl (by kernel_rfl) (fun _ _ _ h => h) (Or.inl ⟨by rfl, ?_⟩) (by assumption) ?_
      rotate_left
      · intro W hSw; rw [← hS] at hSw; obtain ⟨_, _, ⟨s0, s1, s2, s3, s4, s5⟩, ⟨t0, t1, t2, t3, t4, t5⟩⟩ := hSw; go_simp; with_reducible rfl
      simp only [Act.put, List.setIfInBounds_toArray, List.set_cons_zero, List.set_cons_succ]
      refine HT.take 1 (v := ?_) rfl (by kernel_rfl) (fun _ _ _ h => h) (Or.inl ⟨by rfl, ?_⟩) (by assumption) ?_
      rotate_left
      · intro W hSw; rw [← hS] at hSw; obtain ⟨_, _, ⟨s0, s1, s2, s3, s4, s5⟩, ⟨t0, t1, t2, t3, t4, t5⟩⟩ := hSw; go_simp; with_reducible rfl
      simp only [Act.put, List.setIfInBounds_toArray, List.set_cons_zero, List.set_cons_succ]
      refine HT.take 2 (v := ?_) rfl (by kernel_rfl) (fun _ _ _ h => h) (Or.inl ⟨by rfl, ?_⟩) (by assumption) ?_
      rotate_left
      · intro W hSw; rw [← hS] at hSw; obtain ⟨_, _, ⟨s0, s1, s2, s3, s4, s5⟩, ⟨t0, t1, t2, t3, t4, t5⟩⟩ := hSw; go_simp; with_reducible rfl
      simp only [Act.put, List.setIfInBounds_toArray, List.set_cons_zero, List.set_cons_succ]
      refine HT.two 3 5 rfl rfl (by kernel_rfl) (by rfl) (by rfl) (fun K hK => ?_) (fun K hK => ?_)
      · go_simp
        refine (HCx.out _ (Hw.out _ s6.below)).mono ?_
        rintro e w7 ⟨xcs, rfl, hx, hb⟩
        have s7 := s6.call hxb hb
        replace hx : RVAt (Old w7) w7 r2.tree.toRV xcs := hx.mono fun b hb => by
          rcases hb with hb | hb
          · cases hb
          · exact hb.2
        go_simp
        refine hK.out _ _ (by rw [← hS]; exact s7) ?_
        clear hK hb
        refine HT.two 4 5 rfl rfl (by kernel_rfl) (by rfl) (by rfl) (fun K hK => ?_) (fun K hK => ?_)
        · go_simp
          refine (withField_calls m Hp.out.2.1 (Old w7) w7 (fun _ h => h) 6 0 0 ⟨#[]⟩ key r2.tree.toRV _ xcs (by unfold R47; omega) (by unfold R47; omega) Hkey.out (HM.out.at_ s7.below) hx).mono ?_
          rintro e w8 ⟨ncs, rfl, hn, hb⟩
          obtain ⟨NA, nc, NB, nd, rfl⟩ := hn.fields
          rw [← Hrl.out] at hn
          have s8 := s7.call hxb hb
          replace hn := hn.mono (G := Old w8) fun b h => by
            rcases h with h | h
            · exact Nat.lt_of_lt_of_le h hb.size
            · exact h.2
          go_simp
          refine hK.out _ _ (by rw [← hS]; exact s8) ?_
          clear hK hb
          refine HT.one 5 rfl (by kernel_rfl) (by rfl) (fun K hK => ?_)
          go_simp
          refine hK.out _ _ (by rw [← hS]; exact s8.call hxb ((Below.refl _ _).alloc (Nat.le_refl _) _)) ?_
          clear hK
          have sn : SN w3 (w.heap.size + 1) w8.heap.size b0 b1 b2 b3 b4 b5 (.int .i64 6) (.int .i64 0) (.float .f64 0) (.string ⟨#[]⟩) (.slice KA m.length kc) (.slice LA m.length lc) _ _ rl (w8.alloc (.cells #[.int .i64 0, .int .i64 0, .float .f64 0, .string ⟨#[]⟩, .slice none 0 0, .slice none 0 0] 26)) :=
            ⟨s8.call hxb ((Below.refl _ _).alloc (Nat.le_refl _) _), s8.size, Bk.new _ _ _, (hn.keeps (Keeps.alloc _ _ fun _ h => h)).mono fun b h => ⟨Nat.ne_of_lt h, by rw [World.size_alloc]; exact Nat.lt_succ_of_lt h⟩⟩
          generalize w8.heap.size = p at sn ⊢
          generalize (w8.alloc _) = w9 at sn ⊢
          clear hn hx s6 s7 s8
          clear hS0 hS
          refine HT.done (by kernel_rfl) ?_
          simp only [List.drop_succ_cons, List.drop_zero]
          obtain ⟨p0, p1, p2, p3, p4, p5⟩ := sn.sm.c
          obtain ⟨q0, q1, q2, q3, q4, q5⟩ := Bx.of sn.bk
          have q6 : ∀ i, w9.frozen? ⟨p, i, none⟩ = false := fun i => sn.bk.free i
          have hne : ¬ p = w3.heap.size := by have := sn.pb; omega
          have hne' : ¬ w3.heap.size = p := by have := sn.pb; omega
          have sf := sn.store
          have Hsf := hide sf
          clear sf sn
          go_wp2_with fail
          have hc := implCompareMaps_calls rl (fieldsRV m) _ _ _ Hsf.out.rv (HM.out.at_ Hsf.out.below)
          rw [HX.out.1] at hc
          refine hc.mono ?_
          rintro e w10 ⟨rfl, hb⟩
          have sf := Hsf.out.call hb
          clear hb hc Hsf p0 p1 p2 p3 p4 p5 q0 q1 q2 q3 q4 q5 q6 hne hne'
          obtain ⟨p0, p1, p2, p3, p4, p5⟩ := sf.c
          obtain ⟨q0, q1, q2, q3, q4, q5⟩ := sf.n
          go_wp2_with fail
          have hc := implCompareMaps_calls (fieldsRV m) rl _ _ _ (HM.out.at_ sf.below) sf.rv
          rw [HX.out.2.1] at hc
          refine hc.mono ?_
          rintro e w11 ⟨rfl, hb⟩
          replace sf := sf.call hb
          clear hb hc p0 p1 p2 p3 p4 p5 q0 q1 q2 q3 q4 q5
          obtain ⟨p0, p1, p2, p3, p4, p5⟩ := sf.c
          obtain ⟨q0, q1, q2, q3, q4, q5⟩ := sf.n
          go_wp2_with fail
          have hc := implEqualMaps_calls (fieldsRV m) rl _ _ _ (HM.out.at_ sf.below) sf.rv
          rw [HX.out.2.2] at hc
          refine hc.mono ?_
          rintro e w12 ⟨rfl, hb⟩
          replace sf := sf.call hb
          clear hb hc p0 p1 p2 p3 p4 p5 q0 q1 q2 q3 q4 q5
          go_wp2
          go_ret
          exact ⟨rfl, Hw.out _ sf.below⟩
        · go_simp
          have sb := s7.call hxb ((Below.refl _ _).alloc (Nat.le_refl _) (.cells #[.int .i64 0, .int .i64 0, .float .f64 0, .string ⟨#[]⟩, .slice none 0 0, .slice none 0 0] 26))
          have hB := Bk.new w7 26 #[.int .i64 0, .int .i64 0, .float .f64 0, .string ⟨#[]⟩, .slice none 0 0, .slice none 0 0]
          have hpl : w3.heap.size < w7.heap.size := s7.size
          refine hK.out _ _ (by rw [← hS]; exact sb) ?_
          clear hK
          have hF : ∀ b, b < w7.heap.size → (b ≠ w7.heap.size ∧ b < (w7.alloc (.cells #[.int .i64 0, .int .i64 0, .float .f64 0, .string ⟨#[]⟩, .slice none 0 0, .slice none 0 0] 26)).heap.size) := fun b h => ⟨Nat.ne_of_lt h, by rw [World.size_alloc]; exact Nat.lt_succ_of_lt h⟩
          have hx' := (hx.keeps (Keeps.alloc w7 (.cells #[.int .i64 0, .int .i64 0, .float .f64 0, .string ⟨#[]⟩, .slice none 0 0, .slice none 0 0] 26) fun _ h => h)).mono hF
          have hm' := ((HM.out.at_ s7.below).keeps (Keeps.alloc w7 (.cells #[.int .i64 0, .int .i64 0, .float .f64 0, .string ⟨#[]⟩, .slice none 0 0, .slice none 0 0] 26) fun _ h => h)).mono hF
          clear hx hF
          generalize w7.heap.size = p at *
          generalize (w7.alloc _) = v7 at *
          refine HT.one 4 rfl (by kernel_rfl) (by rfl) (fun K hK => ?_)
          go_simp
          refine (withField_calls m Hp.out.2.1 (fun b => b ≠ p ∧ b < v7.heap.size) v7 (fun _ h => h.2) 6 0 0 ⟨#[]⟩ key r2.tree.toRV _ xcs (by unfold R47; omega) (by unfold R47; omega) Hkey.out hm' hx').mono ?_
          rintro e w9 ⟨ncs, rfl, hn, hb⟩
          obtain ⟨NA, nc, NB, nd, rfl⟩ := hn.fields
          rw [← Hrl.out] at hn
          have s8 := sb.call hxb hb
          have hpv := hB.lt
          replace hn := hn.mono (G := fun b => b ≠ p ∧ b < w9.heap.size) fun b h => by
            have := hb.size
            rcases h with h | h
            · exact ⟨h.1, by omega⟩
            · have := h.1
              exact ⟨by omega, h.2⟩
          go_simp
          refine hK.out _ _ (by rw [← hS]; exact s8) ?_
          clear hK
          have sn : SN w3 (w.heap.size + 1) p b0 b1 b2 b3 b4 b5 (.int .i64 6) (.int .i64 0) (.float .f64 0) (.string ⟨#[]⟩) (.slice KA m.length kc) (.slice LA m.length lc) _ _ rl w9 := ⟨s8, hpl, hB.below hb hpv, hn⟩
          clear hn hx' hm' s8 sb hB hpv hb
          clear hS0 hS
          refine HT.done (by kernel_rfl) ?_
          simp only [List.drop_succ_cons, List.drop_zero]
          obtain ⟨p0, p1, p2, p3, p4, p5⟩ := sn.sm.c
          obtain ⟨q0, q1, q2, q3, q4, q5⟩ := Bx.of sn.bk
          have q6 : ∀ i, w9.frozen? ⟨p, i, none⟩ = false := fun i => sn.bk.free i
          have hne : ¬ p = w3.heap.size := by have := sn.pb; omega
          have hne' : ¬ w3.heap.size = p := by have := sn.pb; omega
          have sf := sn.store
          have Hsf := hide sf
          clear sf sn
          go_wp2_with fail
          have hc := implCompareMaps_calls rl (fieldsRV m) _ _ _ Hsf.out.rv (HM.out.at_ Hsf.out.below)
          rw [HX.out.1] at hc
          refine hc.mono ?_
          rintro e w10 ⟨rfl, hb⟩
          have sf := Hsf.out.call hb
          clear hb hc Hsf p0 p1 p2 p3 p4 p5 q0 q1 q2 q3 q4 q5 q6 hne hne'
          obtain ⟨p0, p1, p2, p3, p4, p5⟩ := sf.c
          obtain ⟨q0, q1, q2, q3, q4, q5⟩ := sf.n
          go_wp2_with fail
          have hc := implCompareMaps_calls (fieldsRV m) rl _ _ _ (HM.out.at_ sf.below) sf.rv
          rw [HX.out.2.1] at hc
          refine hc.mono ?_
          rintro e w11 ⟨rfl, hb⟩
          replace sf := sf.call hb
          clear hb hc p0 p1 p2 p3 p4 p5 q0 q1 q2 q3 q4 q5
          obtain ⟨p0, p1, p2, p3, p4, p5⟩ := sf.c
          obtain ⟨q0, q1, q2, q3, q4, q5⟩ := sf.n
          go_wp2_with fail
          have hc := implEqualMaps_calls (fieldsRV m) rl _ _ _ (HM.out.at_ sf.below) sf.rv
          rw [HX.out.2.2] at hc
          refine hc.mono ?_
          rintro e w12 ⟨rfl, hb⟩
          replace sf := sf.call hb
          clear hb hc p0 p1 p2 p3 p4 p5 q0 q1 q2 q3 q4 q5
          go_wp2
          go_ret
          exact ⟨rfl, Hw.out _ sf.below⟩
      · go_simp
        have sb := s6.call hxb ((Below.refl _ _).alloc (Nat.le_refl _) (.cells #[.int .i64 0, .int .i64 0, .float .f64 0, .string ⟨#[]⟩, .slice none 0 0, .slice none 0 0] 26))
        have hB : Bk (w6.drew.alloc (.cells #[.int .i64 0, .int .i64 0, .float .f64 0, .string ⟨#[]⟩, .slice none 0 0, .slice none 0 0] 26)) w6.heap.size 26 #[.int .i64 0, .int .i64 0, .float .f64 0, .string ⟨#[]⟩, .slice none 0 0, .slice none 0 0] := Bk.new w6.drew _ _
        have hpl : w3.heap.size < w6.heap.size := s6.size
        refine hK.out _ _ (by rw [← hS]; exact sb) ?_
        clear hK
        refine HT.one 3 rfl (by kernel_rfl) (by rfl) (fun K hK => ?_)
        go_simp
        refine (HCx.out _ (Hw.out _ sb.below)).mono ?_
        rintro e w7 ⟨xcs, rfl, hx, hb⟩
        have s7 := sb.call hxb hb
        have hpv := hB.lt
        have hx' : RVAt (fun b => b ≠ w6.heap.size ∧ b < w7.heap.size) w7 r2.tree.toRV xcs := hx.mono fun b h => by
          rcases h with h | h
          · cases h
          · have := h.1
            exact ⟨by omega, h.2⟩
        have hm' : RVAt (fun b => b ≠ w6.heap.size ∧ b < w7.heap.size) w7 (fieldsRV m) _ := (HM.out.keeps (Keeps.below s7.below fun _ h => h)).mono fun b h => ⟨Nat.ne_of_lt (Nat.lt_trans h hpl), Nat.lt_of_lt_of_le h s7.below.size⟩
        replace hB := hB.below hb hpv
        clear hx hpv hb
        go_simp
        refine hK.out _ _ (by rw [← hS]; exact s7) ?_
        clear hK sb
        generalize w6.heap.size = p at *
        refine HT.one 4 rfl (by kernel_rfl) (by rfl) (fun K hK => ?_)
        go_simp
        refine (withField_calls m Hp.out.2.1 (fun b => b ≠ p ∧ b < w7.heap.size) w7 (fun _ h => h.2) 6 0 0 ⟨#[]⟩ key r2.tree.toRV _ xcs (by unfold R47; omega) (by unfold R47; omega) Hkey.out hm' hx').mono ?_
        rintro e w9 ⟨ncs, rfl, hn, hb⟩
        obtain ⟨NA, nc, NB, nd, rfl⟩ := hn.fields
        rw [← Hrl.out] at hn
        have s8 := s7.call hxb hb
        have hpv := hB.lt
        replace hn := hn.mono (G := fun b => b ≠ p ∧ b < w9.heap.size) fun b h => by
          have := hb.size
          rcases h with h | h
          · exact ⟨h.1, by omega⟩
          · have := h.1
            exact ⟨by omega, h.2⟩
        go_simp
        refine hK.out _ _ (by rw [← hS]; exact s8) ?_
        clear hK
        have sn : SN w3 (w.heap.size + 1) p b0 b1 b2 b3 b4 b5 (.int .i64 6) (.int .i64 0) (.float .f64 0) (.string ⟨#[]⟩) (.slice KA m.length kc) (.slice LA m.length lc) _ _ rl w9 := ⟨s8, hpl, hB.below hb hpv, hn⟩
        clear hn hx' hm' s8 s7 hB hpv hb
        clear hS0 hS
        refine HT.done (by kernel_rfl) ?_
        simp only [List.drop_succ_cons, List.drop_zero]
        obtain ⟨p0, p1, p2, p3, p4, p5⟩ := sn.sm.c
        obtain ⟨q0, q1, q2, q3, q4, q5⟩ := Bx.of sn.bk
        have q6 : ∀ i, w9.frozen? ⟨p, i, none⟩ = false := fun i => sn.bk.free i
        have hne : ¬ p = w3.heap.size := by have := sn.pb; omega
        have hne' : ¬ w3.heap.size = p := by have := sn.pb; omega
        have sf := sn.store
        have Hsf := hide sf
        clear sf sn
        go_wp2_with fail
        have hc := implCompareMaps_calls rl (fieldsRV m) _ _ _ Hsf.out.rv (HM.out.at_ Hsf.out.below)
        rw [HX.out.1] at hc
        refine hc.mono ?_
        rintro e w10 ⟨rfl, hb⟩
        have sf := Hsf.out.call hb
        clear hb hc Hsf p0 p1 p2 p3 p4 p5 q0 q1 q2 q3 q4 q5 q6 hne hne'
        obtain ⟨p0, p1, p2, p3, p4, p5⟩ := sf.c
        obtain ⟨q0, q1, q2, q3, q4, q5⟩ := sf.n
        go_wp2_with fail
        have hc := implCompareMaps_calls (fieldsRV m) rl _ _ _ (HM.out.at_ sf.below) sf.rv
        rw [HX.out.2.1] at hc
        refine hc.mono ?_
        rintro e w11 ⟨rfl, hb⟩
        replace sf := sf.call hb
        clear hb hc p0 p1 p2 p3 p4 p5 q0 q1 q2 q3 q4 q5
        obtain ⟨p0, p1, p2, p3, p4, p5⟩ := sf.c
        obtain ⟨q0, q1, q2, q3, q4, q5⟩ := sf.n
        go_wp2_with fail
        have hc := implEqualMaps_calls (fieldsRV m) rl _ _ _ (HM.out.at_ sf.below) sf.rv
        rw [HX.out.2.2] at hc
        refine hc.mono ?_
        rintro e w12 ⟨rfl, hb⟩
        replace sf := sf.call hb
        clear hb hc p0 p1 p2 p3 p4 p5 q0 q1 q2 q3 q4 q5
        go_wp2
        go_ret
        exact ⟨rfl, Hw.out _ sf.below⟩
    · obtain ⟨kb, ko, rfl, hF, hc⟩ := row1_at (u := Value.string (m[d]).1) HK.out.1 hd (by simp [hd])
      rw [← (bcell sm.below).1 _ _ hF] at hc
      have hb5 : kb < w5.heap.size := Nat.lt_trans hF h35
      have hz0 : (0 : Int) < (m.length : Int) := by omega
      have hz1 : (m.length : Int) - 1 = (d : Int) := by omega
      have hz2 : (d : Int) < (m.length : Int) := by omega
      have hz3 : (0 : Int) ≤ (d : Int) := Int.natCast_nonneg _
      generalize (m[d]).1 = kl at hc ha
      clear hF
      have Hz := hide (And.intro hd hdl)
      clear hd hdl
      rw [ha] at HX
      clear ha
      rw [bytes_gt] at HX
      obtain ⟨g, hg⟩ : ∃ g, Op.bytesLess kl.toList key.toList = g := ⟨_, rfl⟩
      obtain ⟨g', hg'⟩ : ∃ g', (kl.toList == key.toList) = g' := ⟨_, rfl⟩
      rw [hg, hg'] at HX
      cases g <;> cases g'
      all_goals
        simp at HX
        have HX := hide HX
        go_wp2_with fail
        clear hc
        have s6 : WM w3 (w.heap.size + 1) b0 b1 b2 b3 b4 b5 (.int .i64 6) (.int .i64 0) (.float .f64 0) (.string ⟨#[]⟩) (.slice (some ⟨kb, ko, none⟩) m.length kc) (.slice LA m.length lc) (w5.alloc (.cells #[.int .i64 k', .int .i64 n', .float .f64 f', .string s', .slice KA' kl' kc', .slice LA' ll' lc'] 26)) := sm.call hxb ((Below.refl _ _).alloc (Nat.le_refl _) _)
        generalize (w5.alloc _) = w6 at s6 ⊢
        clear sm p0 p1 p2 p3 p4 p5 h35 h25
        replace s6 := s6.call hxb (below_drew (Below.refl _ _))
        have hS0 := s6
        generalize hS : WM w3 (w.heap.size + 1) b0 b1 b2 b3 b4 b5 (.int .i64 6) (.int .i64 0) (.float .f64 0) (.string ⟨#[]⟩) (.slice (some ⟨kb, ko, none⟩) m.length kc) (.slice LA m.length lc) = S at hS0
        refine wp_region_head 6 S (by rfl) (by kernel_rfl) ?_
        refine HT.take 0 (v := ?_) rfl (by kernel_rfl) (fun _ _ _ h => h) (Or.inl ⟨by rfl, ?_⟩) (by assumption) ?_
        rotate_left
        · intro W hSw; rw [← hS] at hSw; obtain ⟨_, _, ⟨s0, s1, s2, s3, s4, s5⟩, ⟨t0, t1, t2, t3, t4, t5⟩⟩ := hSw; go_simp; with_reducible rfl
        simp only [Act.put, List.setIfInBounds_toArray, List.set_cons_zero, List.set_cons_succ]
        refine HT.take 1 (v := ?_) rfl (by kernel_rfl) (fun _ _ _ h => h) (Or.inl ⟨by rfl, ?_⟩) (by assumption) ?_
        rotate_left
        · intro W hSw; rw [← hS] at hSw; obtain ⟨_, _, ⟨s0, s1, s2, s3, s4, s5⟩, ⟨t0, t1, t2, t3, t4, t5⟩⟩ := hSw; go_simp; with_reducible rfl
        simp only [Act.put, List.setIfInBounds_toArray, List.set_cons_zero, List.set_cons_succ]
        refine HT.take 2 (v := ?_) rfl (by kernel_rfl) (fun _ _ _ h => h) (Or.inl ⟨by rfl, ?_⟩) (by assumption) ?_
        rotate_left
        · intro W hSw; rw [← hS] at hSw; obtain ⟨_, _, ⟨s0, s1, s2, s3, s4, s5⟩, ⟨t0, t1, t2, t3, t4, t5⟩⟩ := hSw; go_simp; with_reducible rfl
        simp only [Act.put, List.setIfInBounds_toArray, List.set_cons_zero, List.set_cons_succ]
        refine HT.two 3 5 rfl rfl (by kernel_rfl) (by rfl) (by rfl) (fun K hK => ?_) (fun K hK => ?_)
        · go_simp
          refine (HCx.out _ (Hw.out _ s6.below)).mono ?_
          rintro e w7 ⟨xcs, rfl, hx, hb⟩
          have s7 := s6.call hxb hb
          replace hx : RVAt (Old w7) w7 r2.tree.toRV xcs := hx.mono fun b hb => by
            rcases hb with hb | hb
            · cases hb
            · exact hb.2
          go_simp
          refine hK.out _ _ (by rw [← hS]; exact s7) ?_
          clear hK hb
          refine HT.two 4 5 rfl rfl (by kernel_rfl) (by rfl) (by rfl) (fun K hK => ?_) (fun K hK => ?_)
          · go_simp
            refine (withField_calls m Hp.out.2.1 (Old w7) w7 (fun _ h => h) 6 0 0 ⟨#[]⟩ key r2.tree.toRV _ xcs (by unfold R47; omega) (by unfold R47; omega) Hkey.out (HM.out.at_ s7.below) hx).mono ?_
            rintro e w8 ⟨ncs, rfl, hn, hb⟩
            obtain ⟨NA, nc, NB, nd, rfl⟩ := hn.fields
            rw [← Hrl.out] at hn
            have s8 := s7.call hxb hb
            replace hn := hn.mono (G := Old w8) fun b h => by
              rcases h with h | h
              · exact Nat.lt_of_lt_of_le h hb.size
              · exact h.2
            go_simp
            refine hK.out _ _ (by rw [← hS]; exact s8) ?_
            clear hK hb
            refine HT.one 5 rfl (by kernel_rfl) (by rfl) (fun K hK => ?_)
            go_simp
            refine hK.out _ _ (by rw [← hS]; exact s8.call hxb ((Below.refl _ _).alloc (Nat.le_refl _) _)) ?_
            clear hK
            have sn : SN w3 (w.heap.size + 1) w8.heap.size b0 b1 b2 b3 b4 b5 (.int .i64 6) (.int .i64 0) (.float .f64 0) (.string ⟨#[]⟩) (.slice (some ⟨kb, ko, none⟩) m.length kc) (.slice LA m.length lc) _ _ rl (w8.alloc (.cells #[.int .i64 0, .int .i64 0, .float .f64 0, .string ⟨#[]⟩, .slice none 0 0, .slice none 0 0] 26)) :=
              ⟨s8.call hxb ((Below.refl _ _).alloc (Nat.le_refl _) _), s8.size, Bk.new _ _ _, (hn.keeps (Keeps.alloc _ _ fun _ h => h)).mono fun b h => ⟨Nat.ne_of_lt h, by rw [World.size_alloc]; exact Nat.lt_succ_of_lt h⟩⟩
            generalize w8.heap.size = p at sn ⊢
            generalize (w8.alloc _) = w9 at sn ⊢
            clear hn hx s6 s7 s8
            clear hS0 hS
            refine HT.done (by kernel_rfl) ?_
            simp only [List.drop_succ_cons, List.drop_zero]
            obtain ⟨p0, p1, p2, p3, p4, p5⟩ := sn.sm.c
            obtain ⟨q0, q1, q2, q3, q4, q5⟩ := Bx.of sn.bk
            have q6 : ∀ i, w9.frozen? ⟨p, i, none⟩ = false := fun i => sn.bk.free i
            have hne : ¬ p = w3.heap.size := by have := sn.pb; omega
            have hne' : ¬ w3.heap.size = p := by have := sn.pb; omega
            have sf := sn.store
            have Hsf := hide sf
            clear sf sn
            go_wp2_with fail
            have hc := implCompareMaps_calls rl (fieldsRV m) _ _ _ Hsf.out.rv (HM.out.at_ Hsf.out.below)
            rw [HX.out.1] at hc
            refine hc.mono ?_
            rintro e w10 ⟨rfl, hb⟩
            have sf := Hsf.out.call hb
            clear hb hc Hsf p0 p1 p2 p3 p4 p5 q0 q1 q2 q3 q4 q5 q6 hne hne'
            obtain ⟨p0, p1, p2, p3, p4, p5⟩ := sf.c
            obtain ⟨q0, q1, q2, q3, q4, q5⟩ := sf.n
            go_wp2_with fail
            have hc := implCompareMaps_calls (fieldsRV m) rl _ _ _ (HM.out.at_ sf.below) sf.rv
            rw [HX.out.2.1] at hc
            refine hc.mono ?_
            rintro e w11 ⟨rfl, hb⟩
            replace sf := sf.call hb
            clear hb hc p0 p1 p2 p3 p4 p5 q0 q1 q2 q3 q4 q5
            obtain ⟨p0, p1, p2, p3, p4, p5⟩ := sf.c
            obtain ⟨q0, q1, q2, q3, q4, q5⟩ := sf.n
            go_wp2_with fail
            have hc := implEqualMaps_calls (fieldsRV m) rl _ _ _ (HM.out.at_ sf.below) sf.rv
            rw [HX.out.2.2] at hc
            refine hc.mono ?_
            rintro e w12 ⟨rfl, hb⟩
            replace sf := sf.call hb
            clear hb hc p0 p1 p2 p3 p4 p5 q0 q1 q2 q3 q4 q5
            go_wp2
            go_ret
            exact ⟨rfl, Hw.out _ sf.below⟩
          · go_simp
            have sb := s7.call hxb ((Below.refl _ _).alloc (Nat.le_refl _) (.cells #[.int .i64 0, .int .i64 0, .float .f64 0, .string ⟨#[]⟩, .slice none 0 0, .slice none 0 0] 26))
            have hB := Bk.new w7 26 #[.int .i64 0, .int .i64 0, .float .f64 0, .string ⟨#[]⟩, .slice none 0 0, .slice none 0 0]
            have hpl : w3.heap.size < w7.heap.size := s7.size
            refine hK.out _ _ (by rw [← hS]; exact sb) ?_
            clear hK
            have hF : ∀ b, b < w7.heap.size → (b ≠ w7.heap.size ∧ b < (w7.alloc (.cells #[.int .i64 0, .int .i64 0, .float .f64 0, .string ⟨#[]⟩, .slice none 0 0, .slice none 0 0] 26)).heap.size) := fun b h => ⟨Nat.ne_of_lt h, by rw [World.size_alloc]; exact Nat.lt_succ_of_lt h⟩
            have hx' := (hx.keeps (Keeps.alloc w7 (.cells #[.int .i64 0, .int .i64 0, .float .f64 0, .string ⟨#[]⟩, .slice none 0 0, .slice none 0 0] 26) fun _ h => h)).mono hF
            have hm' := ((HM.out.at_ s7.below).keeps (Keeps.alloc w7 (.cells #[.int .i64 0, .int .i64 0, .float .f64 0, .string ⟨#[]⟩, .slice none 0 0, .slice none 0 0] 26) fun _ h => h)).mono hF
            clear hx hF
            generalize w7.heap.size = p at *
            generalize (w7.alloc _) = v7 at *
            refine HT.one 4 rfl (by kernel_rfl) (by rfl) (fun K hK => ?_)
            go_simp
            refine (withField_calls m Hp.out.2.1 (fun b => b ≠ p ∧ b < v7.heap.size) v7 (fun _ h => h.2) 6 0 0 ⟨#[]⟩ key r2.tree.toRV _ xcs (by unfold R47; omega) (by unfold R47; omega) Hkey.out hm' hx').mono ?_
            rintro e w9 ⟨ncs, rfl, hn, hb⟩
            obtain ⟨NA, nc, NB, nd, rfl⟩ := hn.fields
            rw [← Hrl.out] at hn
            have s8 := sb.call hxb hb
            have hpv := hB.lt
            replace hn := hn.mono (G := fun b => b ≠ p ∧ b < w9.heap.size) fun b h => by
              have := hb.size
              rcases h with h | h
              · exact ⟨h.1, by omega⟩
              · have := h.1
                exact ⟨by omega, h.2⟩
            go_simp
            refine hK.out _ _ (by rw [← hS]; exact s8) ?_
            clear hK
            have sn : SN w3 (w.heap.size + 1) p b0 b1 b2 b3 b4 b5 (.int .i64 6) (.int .i64 0) (.float .f64 0) (.string ⟨#[]⟩) (.slice (some ⟨kb, ko, none⟩) m.length kc) (.slice LA m.length lc) _ _ rl w9 := ⟨s8, hpl, hB.below hb hpv, hn⟩
            clear hn hx' hm' s8 sb hB hpv hb
            clear hS0 hS
            refine HT.done (by kernel_rfl) ?_
            simp only [List.drop_succ_cons, List.drop_zero]
            obtain ⟨p0, p1, p2, p3, p4, p5⟩ := sn.sm.c
            obtain ⟨q0, q1, q2, q3, q4, q5⟩ := Bx.of sn.bk
            have q6 : ∀ i, w9.frozen? ⟨p, i, none⟩ = false := fun i => sn.bk.free i
            have hne : ¬ p = w3.heap.size := by have := sn.pb; omega
            have hne' : ¬ w3.heap.size = p := by have := sn.pb; omega
            have sf := sn.store
            have Hsf := hide sf
            clear sf sn
            go_wp2_with fail
            have hc := implCompareMaps_calls rl (fieldsRV m) _ _ _ Hsf.out.rv (HM.out.at_ Hsf.out.below)
            rw [HX.out.1] at hc
            refine hc.mono ?_
            rintro e w10 ⟨rfl, hb⟩
            have sf := Hsf.out.call hb
            clear hb hc Hsf p0 p1 p2 p3 p4 p5 q0 q1 q2 q3 q4 q5 q6 hne hne'
            obtain ⟨p0, p1, p2, p3, p4, p5⟩ := sf.c
            obtain ⟨q0, q1, q2, q3, q4, q5⟩ := sf.n
            go_wp2_with fail
            have hc := implCompareMaps_calls (fieldsRV m) rl _ _ _ (HM.out.at_ sf.below) sf.rv
            rw [HX.out.2.1] at hc
            refine hc.mono ?_
            rintro e w11 ⟨rfl, hb⟩
            replace sf := sf.call hb
            clear hb hc p0 p1 p2 p3 p4 p5 q0 q1 q2 q3 q4 q5
            obtain ⟨p0, p1, p2, p3, p4, p5⟩ := sf.c
            obtain ⟨q0, q1, q2, q3, q4, q5⟩ := sf.n
            go_wp2_with fail
            have hc := implEqualMaps_calls (fieldsRV m) rl _ _ _ (HM.out.at_ sf.below) sf.rv
            rw [HX.out.2.2] at hc
            refine hc.mono ?_
            rintro e w12 ⟨rfl, hb⟩
            replace sf := sf.call hb
            clear hb hc p0 p1 p2 p3 p4 p5 q0 q1 q2 q3 q4 q5
            go_wp2
            go_ret
            exact ⟨rfl, Hw.out _ sf.below⟩
        · go_simp
          have sb := s6.call hxb ((Below.refl _ _).alloc (Nat.le_refl _) (.cells #[.int .i64 0, .int .i64 0, .float .f64 0, .string ⟨#[]⟩, .slice none 0 0, .slice none 0 0] 26))
          have hB : Bk (w6.drew.alloc (.cells #[.int .i64 0, .int .i64 0, .float .f64 0, .string ⟨#[]⟩, .slice none 0 0, .slice none 0 0] 26)) w6.heap.size 26 #[.int .i64 0, .int .i64 0, .float .f64 0, .string ⟨#[]⟩, .slice none 0 0, .slice none 0 0] := Bk.new w6.drew _ _
          have hpl : w3.heap.size < w6.heap.size := s6.size
          refine hK.out _ _ (by rw [← hS]; exact sb) ?_
          clear hK
          refine HT.one 3 rfl (by kernel_rfl) (by rfl) (fun K hK => ?_)
          go_simp
          refine (HCx.out _ (Hw.out _ sb.below)).mono ?_
          rintro e w7 ⟨xcs, rfl, hx, hb⟩
          have s7 := sb.call hxb hb
          have hpv := hB.lt
          have hx' : RVAt (fun b => b ≠ w6.heap.size ∧ b < w7.heap.size) w7 r2.tree.toRV xcs := hx.mono fun b h => by
            rcases h with h | h
            · cases h
            · have := h.1
              exact ⟨by omega, h.2⟩
          have hm' : RVAt (fun b => b ≠ w6.heap.size ∧ b < w7.heap.size) w7 (fieldsRV m) _ := (HM.out.keeps (Keeps.below s7.below fun _ h => h)).mono fun b h => ⟨Nat.ne_of_lt (Nat.lt_trans h hpl), Nat.lt_of_lt_of_le h s7.below.size⟩
          replace hB := hB.below hb hpv
          clear hx hpv hb
          go_simp
          refine hK.out _ _ (by rw [← hS]; exact s7) ?_
          clear hK sb
          generalize w6.heap.size = p at *
          refine HT.one 4 rfl (by kernel_rfl) (by rfl) (fun K hK => ?_)
          go_simp
          refine (withField_calls m Hp.out.2.1 (fun b => b ≠ p ∧ b < w7.heap.size) w7 (fun _ h => h.2) 6 0 0 ⟨#[]⟩ key r2.tree.toRV _ xcs (by unfold R47; omega) (by unfold R47; omega) Hkey.out hm' hx').mono ?_
          rintro e w9 ⟨ncs, rfl, hn, hb⟩
          obtain ⟨NA, nc, NB, nd, rfl⟩ := hn.fields
          rw [← Hrl.out] at hn
          have s8 := s7.call hxb hb
          have hpv := hB.lt
          replace hn := hn.mono (G := fun b => b ≠ p ∧ b < w9.heap.size) fun b h => by
            have := hb.size
            rcases h with h | h
            · exact ⟨h.1, by omega⟩
            · have := h.1
              exact ⟨by omega, h.2⟩
          go_simp
          refine hK.out _ _ (by rw [← hS]; exact s8) ?_
          clear hK
          have sn : SN w3 (w.heap.size + 1) p b0 b1 b2 b3 b4 b5 (.int .i64 6) (.int .i64 0) (.float .f64 0) (.string ⟨#[]⟩) (.slice (some ⟨kb, ko, none⟩) m.length kc) (.slice LA m.length lc) _ _ rl w9 := ⟨s8, hpl, hB.below hb hpv, hn⟩
          clear hn hx' hm' s8 s7 hB hpv hb
          clear hS0 hS
          refine HT.done (by kernel_rfl) ?_
          simp only [List.drop_succ_cons, List.drop_zero]
          obtain ⟨p0, p1, p2, p3, p4, p5⟩ := sn.sm.c
          obtain ⟨q0, q1, q2, q3, q4, q5⟩ := Bx.of sn.bk
          have q6 : ∀ i, w9.frozen? ⟨p, i, none⟩ = false := fun i => sn.bk.free i
          have hne : ¬ p = w3.heap.size := by have := sn.pb; omega
          have hne' : ¬ w3.heap.size = p := by have := sn.pb; omega
          have sf := sn.store
          have Hsf := hide sf
          clear sf sn
          go_wp2_with fail
          have hc := implCompareMaps_calls rl (fieldsRV m) _ _ _ Hsf.out.rv (HM.out.at_ Hsf.out.below)
          rw [HX.out.1] at hc
          refine hc.mono ?_
          rintro e w10 ⟨rfl, hb⟩
          have sf := Hsf.out.call hb
          clear hb hc Hsf p0 p1 p2 p3 p4 p5 q0 q1 q2 q3 q4 q5 q6 hne hne'
          obtain ⟨p0, p1, p2, p3, p4, p5⟩ := sf.c
          obtain ⟨q0, q1, q2, q3, q4, q5⟩ := sf.n
          go_wp2_with fail
          have hc := implCompareMaps_calls (fieldsRV m) rl _ _ _ (HM.out.at_ sf.below) sf.rv
          rw [HX.out.2.1] at hc
          refine hc.mono ?_
          rintro e w11 ⟨rfl, hb⟩
          replace sf := sf.call hb
          clear hb hc p0 p1 p2 p3 p4 p5 q0 q1 q2 q3 q4 q5
          obtain ⟨p0, p1, p2, p3, p4, p5⟩ := sf.c
          obtain ⟨q0, q1, q2, q3, q4, q5⟩ := sf.n
          go_wp2_with fail
          have hc := implEqualMaps_calls (fieldsRV m) rl _ _ _ (HM.out.at_ sf.below) sf.rv
          rw [HX.out.2.2] at hc
          refine hc.mono ?_
          rintro e w12 ⟨rfl, hb⟩
          replace sf := sf.call hb
          clear hb hc p0 p1 p2 p3 p4 p5 q0 q1 q2 q3 q4 q5
          go_wp2
          go_ret
          exact ⟨rfl, Hw.out _ sf.below⟩

end Go.Proofs.Ytekaainjpddklaa
