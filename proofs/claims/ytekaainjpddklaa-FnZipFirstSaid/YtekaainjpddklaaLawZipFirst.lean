/-
  The law FnZipFirst, of every two values and every number: it answers true and leaves what stood.
-/
import Derived.Test.YtekaainjpddklaaZipFirst
import Derived.Test.YtekaainjpddklaaZipSpec
import Derived.Test.YtekaainjpddklaaSame
import Derived.Test.YtekaainjpddklaaListing
set_option linter.unusedVariables false
set_option linter.unusedSimpArgs false
namespace Go.Proofs.Ytekaainjpddklaa
open Go.RowKit
attribute [local go_sem] run_store_float

def olen (o : Option T) : Nat := match o with | none => 0 | some _ => 1
theorem OptRow.formL {F : Nat → Prop} {w : World} {o : Option T} {v : Value} (h : OptRow F w o v) : ∃ A c, v = .slice A (olen o) c := by
  cases o with
  | none => exact ⟨_, _, h⟩
  | some t =>
    obtain ⟨A, c, cs, rfl, _⟩ := h
    exact ⟨_, _, rfl⟩
theorem OptRow.at_ {w W : World} {o : Option T} {v : Value} (h : OptRow (Old w) w o v) (hb : Below w.heap.size w W) : OptRow (Old W) W o v := (h.keeps (Keeps.below hb fun _ h => h)).mono fun _ h => Nat.lt_of_lt_of_le h hb.size
/-- the list of what lies under a key, as a struct -/
def oRV (o : Option T) : RV := .mk 5 0 0 ⟨#[]⟩ [] (match o with | none => [] | some t => [t.toRV])
theorem OptRow.rv {F : Nat → Prop} {w : World} {o : Option T} {A : Option Addr} {n c : Nat} (h : OptRow F w o (.slice A n c)) : RVAt F w (oRV o) [.int .i64 5, .int .i64 0, .float .f64 0, .string ⟨#[]⟩, .slice none 0 0, .slice A n c] := by
  cases o with
  | none =>
    have e : Value.slice A n c = .slice none 0 0 := h
    cases e
    exact RVAt.flat 5 0 0 ⟨#[]⟩ ⟨by decide, by decide⟩ i0 (by decide) (by decide)
  | some t =>
    obtain ⟨A', c', cs, e, h1, h2, h3, h4⟩ := h
    cases e
    have hl := h4.len
    refine RVAt.mk (keys := []) (l := [t.toRV]) (KA := none) (kc := 0) i5 i0 (by decide) (by decide) (by simp) (by simp [R47]) (by simp [R47]) (Nat.le_refl _) (by simp) h1 h2 Row.nil_ h3 fun i r hr => ?_
    cases i with
    | zero =>
      simp at hr
      subst hr
      rw [Nat.zero_mul, List.drop_zero, List.take_of_length_le (by omega)]
      exact h4
    | succ i => simp at hr

set_option maxRecDepth 100000 in
theorem sameOpt_calls {o : Option T} {v1 v2 : Value} {w : World} (h1 : OptRow (Old w) w o v1) (h2 : OptRow (Old w) w o v2) : Calls Try.prog 30 #[v1, v2] w (EqPost true w) := by
  obtain ⟨A1, c1, rfl⟩ := h1.formL
  obtain ⟨A2, c2, rfl⟩ := h2.formL
  have H := hide fun (W : World) (hb : Below w.heap.size w W) => sameValue_calls (oRV o) (oRV o) rfl W _ _ (h1.at_ hb).rv (h2.at_ hb).rv
  generalize olen o = n1 at *
  clear h1 h2
  go_enter Try.func30, Try.ntmps30
  go_wp2_with fail
  refine (lawList_calls _ _ _ _).mono ?_
  rintro e w1 ⟨rfl, hb1⟩
  have Hb1 := hide hb1
  clear hb1
  go_wp2_with fail
  refine (lawList_calls _ _ _ _).mono ?_
  rintro e w2 ⟨rfl, hb2⟩
  have Hb2 := hide (Hb1.out.trans (hb2.mono Hb1.out.size))
  clear hb2
  go_wp2_with fail
  refine (H.out _ Hb2.out).mono ?_
  rintro e w3 ⟨rfl, hb3⟩
  have Hb3 := hide (Hb2.out.trans (hb3.mono Hb2.out.size))
  clear hb3
  go_wp2
  go_ret
  exact ⟨rfl, Hb3.out⟩

/-- the cells that a round's comparison loads -/
structure ZF3 (g b o i : Nat) (key : ByteArray) (v1 v2 u1 u2 : Value) (W : World) : Prop where
  z0 : W.cell? ⟨g, 0, none⟩ = some (.string key)
  z1 : W.cell? ⟨g, 1, none⟩ = some v1
  z2 : W.cell? ⟨g, 2, none⟩ = some v2
  w0 : W.cell? ⟨b, o + i * 3, none⟩ = some (.string key)
  w1 : W.cell? ⟨b, o + i * 3 + 1, none⟩ = some u1
  w2 : W.cell? ⟨b, o + i * 3 + 2, none⟩ = some u2
theorem ZF3.below {g b o i : Nat} {key : ByteArray} {v1 v2 u1 u2 : Value} {W W' : World} (h : ZF3 g b o i key v1 v2 u1 u2 W) (hb : Below W.heap.size W W') (h1 : g < W.heap.size) (h2 : b < W.heap.size) : ZF3 g b o i key v1 v2 u1 u2 W' := by
  have e := (bcell hb).1
  exact ⟨(e _ _ h1).trans h.z0, (e _ _ h1).trans h.z1, (e _ _ h1).trans h.z2, (e _ _ h2).trans h.w0, (e _ _ h2).trans h.w1, (e _ _ h2).trans h.w2⟩

def ZFI (W0 : World) (n : Nat) (s : Value) (W : World) : Prop := ∃ k : Nat, s = .int .i64 (k : Int) ∧ k ≤ n ∧ Below W0.heap.size W0 W

theorem zz5c_calls (r : RV) (w : World) (cs : List Value) (h : RVAt (Old w) w r cs) : Calls Try.prog 15 #[.agg cs.toArray] w (GivesBound (r.flds.length ≤ 2147483647) w) := by
  obtain ⟨kind, n, f, s, keys, l⟩ := r
  refine (zzFits5_calls kind n f s keys l w cs h).mono ?_
  rintro e w' ⟨b, h1, h2, h3⟩
  exact ⟨b, h1, fun hb => Nat.le_trans (flds_length _ _ _ _ _ _) (h2 hb).2, h3⟩

set_option maxRecDepth 100000 in
set_option maxHeartbeats 8000000 in
theorem zipFirstLaw (r1 r2 : RV) (n : Int) (w : World) (cs1 cs2 : List Value) (hno : okInt n) (h1 : RVAt (Old w) w r1 cs1) (h2 : RVAt (Old w) w r2 cs2) :
    Calls Try.prog 7 #[.agg cs1.toArray, .agg cs2.toArray, .int .i64 n] w (LawPost w) := by
  have HZ1 := hide fun (W : World) (hb : Below w.heap.size w W) => zz5c_calls r1 W cs1 (h1.at_ hb)
  have HZ2 := hide fun (W : World) (hb : Below w.heap.size w W) => zz5c_calls r2 W cs2 (h2.at_ hb)
  have HZS := hide fun (W : World) (hb : Below w.heap.size w W) => specZip_calls r1 r2 W _ _ (h1.at_ hb) (h2.at_ hb)
  have HZF := hide fun (m : Int) (hm : okInt m) (hm1 : 1 ≤ m) (W : World) (hb : Below w.heap.size w W) => zipFirst_calls r1 r2 m hm hm1 W _ _ (h1.at_ hb) (h2.at_ hb)
  have hbl := hide (both_length _ _ (flds_sorted r1) (flds_sorted r2))
  generalize bothK r1.flds r2.flds = ks at *
  generalize r1.flds = l1 at *
  generalize r2.flds = l2 at *
  obtain ⟨a0, a1, a2, a3, KA1, kn1, kc1, LA1, ln1, lc1, rfl⟩ := h1.form
  obtain ⟨b0, b1, b2, b3, KA2, kn2, kc2, LA2, ln2, lc2, rfl⟩ := h2.form
  have hn1 := hno.1
  have hn2 := hno.2
  clear h1 h2 hno
  go_enter Try.func7, Try.ntmps7
  go_wp2_with fail
  have st := B2.made w 26 (.int .i64 a0) (.int .i64 a1) (.float .f64 a2) (.string a3) (.slice KA1 kn1 kc1) (.slice LA1 ln1 lc1) (.int .i64 b0) (.int .i64 b1) (.float .f64 b2) (.string b3) (.slice KA2 kn2 kc2) (.slice LA2 ln2 lc2)
  generalize World.alloc _ _ = W at st ⊢
  obtain ⟨p0, p1, p2, p3, p4, p5⟩ := Bx.of st.a
  obtain ⟨q0, q1, q2, q3, q4, q5⟩ := Bx.of st.b
  go_wp2_with fail
  refine (HZ1.out _ st.below).mono ?_
  rintro e w1 ⟨b, rfl, hz1, hb⟩
  clear p0 p1 p2 p3 p4 p5 q0 q1 q2 q3 q4 q5
  replace st := st.call hb
  have Hz1 := hide hz1
  clear hb hz1
  obtain ⟨p0, p1, p2, p3, p4, p5⟩ := Bx.of st.a
  obtain ⟨q0, q1, q2, q3, q4, q5⟩ := Bx.of st.b
  cases b
  · go_wp2
    go_ret
    exact ⟨rfl, st.below⟩
  go_wp2_with fail
  refine (HZ2.out _ st.below).mono ?_
  rintro e w2 ⟨b, rfl, hz2, hb⟩
  clear p0 p1 p2 p3 p4 p5 q0 q1 q2 q3 q4 q5
  replace st := st.call hb
  have Hz2 := hide hz2
  clear hb hz2
  obtain ⟨p0, p1, p2, p3, p4, p5⟩ := Bx.of st.a
  obtain ⟨q0, q1, q2, q3, q4, q5⟩ := Bx.of st.b
  cases b
  · go_wp2
    go_ret
    exact ⟨rfl, st.below⟩
  have hl1 := Hz1.out (by first | exact trivial | rfl)
  have hl2 := Hz2.out (by first | exact trivial | rfl)
  have hsm : ks.length ≤ 4294967294 := by have := hbl.out; omega
  clear Hz1 Hz2 HZ1 HZ2
  go_wp2_with fail
  refine (HZS.out _ st.below hl1 hl2).mono ?_
  rintro e W0 ⟨A2, c2, us2, rfl, hd1, hd2, hrow2, hus2, hb⟩
  clear p0 p1 p2 p3 p4 p5 q0 q1 q2 q3 q4 q5 HZS
  replace st := st.call hb
  have hrow2 := hrow2.mono (G := Old W0) fun b hb => hb.2
  have hus2 := hus2.mono (Q := ZAt (Old W0) W0 l1 l2) fun a cs hz => hz.mono fun b hb => hb.2
  have Hst := hide (And.intro st (And.intro hrow2 hus2))
  clear hb st hrow2 hus2
  obtain ⟨m, hm, hm1, hm2⟩ : ∃ m : Nat, (if n < 1 then 1 else n) = (m : Int) ∧ 1 ≤ m ∧ (m : Int) ≤ 9223372036854775807 := by
    split
    · exact ⟨1, rfl, Nat.le_refl _, by omega⟩
    · exact ⟨n.toNat, by omega, by omega, by omega⟩
  have Hm := hide hm
  clear hm
  go_upto_region 5 with fail
  rw [Hm.out]
  clear Hm
  have hrow := Hst.out.2.1
  have hus := Hst.out.2.2
  have HZ := fun W hb => HZF.out (m : Int) ⟨by omega, hm2⟩ (by omega) W hb (by omega)
  rw [Int.toNat_natCast] at HZ
  have HZm := hide HZ
  clear HZF HZ hrow2 hus2
  by_cases hlt : m < ks.length
  case' pos =>
    have hA : ∃ b o, A2 = some ⟨b, o, none⟩ := by
      obtain ⟨b, o, e, _⟩ := hrow.2 (by omega)
      exact ⟨b, o, e⟩
    obtain ⟨b, o, rfl⟩ := hA
    have hkl : (ks.take m).length = m := by rw [List.length_take]; omega
    have hr := hrow.take (m := m) (by omega)
    have hu := hus.take m (by omega)
    generalize hkk : ks.take m = kk at HZm hr hu hkl
    generalize us2.take (m * 3) = us at hr hu
    have Hru := hide (And.intro hr hu)
    have Hkl := hide hkl
    clear hrow hus hr hu hkk hkl
    go_upto_region 7 with fail
    have hkl := Hkl.out
    clear Hkl
    subst hkl
    generalize (some (⟨b, o, none⟩ : Addr)) = A2 at Hru ⊢
  case' neg =>
    have hkk : ks.take m = ks := List.take_of_length_le (by omega)
    rw [hkk] at HZm
    have Hru := hide (And.intro hrow hus)
    clear hrow hus hkk
    generalize us2 = us at Hru
    go_upto_region 7 with fail
    have hsk : ks.length ≤ 4294967294 := hsm
    generalize ks = kk at HZm Hru hsk ⊢
  all_goals
    have st := Hst.out.1
    obtain ⟨p0, p1, p2, p3, p4, p5⟩ := Bx.of st.a
    obtain ⟨q0, q1, q2, q3, q4, q5⟩ := Bx.of st.b
    have hkb : kk.length ≤ 4294967294 := by omega
    clear Hst hsm hl1 hl2 hbl hm1 hm2 hlt hn1 hn2
    have St := hide st.below
    clear st
    go_wp2_with fail
    refine (HZm.out W0 St.out).mono ?_
    rintro e V0 ⟨A3, c3, us3, rfl, he1, he2, hrow3, hus3, hb⟩
    have hr2 := (Hru.out.1.keeps (Keeps.below hb fun _ h => h)).mono (G := Old V0) fun _ h => Nat.lt_of_lt_of_le h hb.size
    have hu2 := Hru.out.2.mono (Q := ZAt (Old V0) V0 l1 l2) fun a cs hz => (hz.keeps (Keeps.below hb fun _ h => h)).mono fun _ h => Nat.lt_of_lt_of_le h hb.size
    have hr3 := hrow3.mono (G := Old V0) fun b hb => hb.2
    have hu3 := hus3.mono (Q := ZAt (Old V0) V0 l1 l2) fun a cs hz => hz.mono fun b hb => hb.2
    have Hr := hide (And.intro (And.intro hr2 hu2) (And.intro hr3 hu3))
    have Hb := hide (St.out.trans (hb.mono St.out.size))
    clear p0 p1 p2 p3 p4 p5 q0 q1 q2 q3 q4 q5 Hru hrow3 hus3 hr2 hr3 hu2 hu3 hb St HZm
    go_wp2_with fail
    go_loopw [42] (fun s W => ZFI V0 kk.length s W) (fun s _ => kk.length - (intOf s).toNat)
    case atStart => exact ⟨0, rfl, Nat.zero_le _, Below.refl _ _⟩
    case round =>
      obtain ⟨k, rfl, hk, hb⟩ := hrel
      by_cases hlt : k < kk.length
      · obtain ⟨va, vb, hcs, ha, hvb⟩ := Hr.out.2.2.at_ hlt
        obtain ⟨ua, ub, hcs2, hua, hub⟩ := Hr.out.1.2.at_ hlt
        obtain ⟨b3, o3, rfl, hF3, hc3⟩ := rown_at Hr.out.2.1 hlt hcs
        obtain ⟨b4, o4, e4, hF4, hc4⟩ := rown_at Hr.out.1.1 hlt hcs2
        subst e4
        have z0 := hc3 0 _ rfl
        have z1 := hc3 1 _ rfl
        have z2 := hc3 2 _ rfl
        have y0 := hc4 0 _ rfl
        have y1 := hc4 1 _ rfl
        have y2 := hc4 2 _ rfl
        rw [← (bcell hb).1 _ _ hF3] at z0 z1 z2
        rw [← (bcell hb).1 _ _ hF4] at y0 y1 y2
        rw [Nat.add_zero] at z0 y0
        generalize kk[k] = key at *
        have hS1 := fun (W : World) (hb : Below V0.heap.size V0 W) => sameOpt_calls (ha.at_ hb) (hua.at_ hb)
        have hS2 := fun (W : World) (hb : Below V0.heap.size V0 W) => sameOpt_calls (hvb.at_ hb) (hub.at_ hb)
        obtain ⟨a1, ac1, rfl⟩ := ha.formL
        obtain ⟨a2, ac2, rfl⟩ := hvb.formL
        obtain ⟨u1, uc1, rfl⟩ := hua.formL
        obtain ⟨u2, uc2, rfl⟩ := hub.formL
        generalize olen (getT l1 key) = x1 at *
        generalize olen (getT l2 key) = x2 at *
        have hki0 : (0 : Int) ≤ (k : Int) := Int.natCast_nonneg _
        have hki1 : (k : Int) < (kk.length : Int) := by omega
        have hbs := hb.size
        have hl4 : b4 < wr.heap.size := Nat.lt_of_lt_of_le hF4 hb.size
        have hzs : ZF3 wr.heap.size b4 o4 k key (.slice a1 x1 ac1) (.slice a2 x2 ac2) (.slice u1 x1 uc1) (.slice u2 x2 uc2) (wr.alloc (.cells #[.string key, .slice a1 x1 ac1, .slice a2 x2 ac2] 57)) := by
          have hB := Bk.new wr 57 #[.string key, .slice a1 x1 ac1, .slice a2 x2 ac2]
          have eb2 := (bcell ((Below.refl wr.heap.size wr).alloc (Nat.le_refl _) (.cells #[.string key, .slice a1 x1 ac1, .slice a2 x2 ac2] 57))).1
          exact ⟨hB.cell 0, hB.cell 1, hB.cell 2, (eb2 _ _ hl4).trans y0, (eb2 _ _ hl4).trans y1, (eb2 _ _ hl4).trans y2⟩
        have HS1 := hide hS1
        have HS2 := hide hS2
        have Hzs := hide hzs
        have Hb2 := hide (show Below V0.heap.size V0 (wr.alloc (.cells #[.string key, .slice a1 x1 ac1, .slice a2 x2 ac2] 57)) from hb.alloc hb.size _)
        clear ha hua hvb hub hcs hcs2 hc3 hc4 hF3 hF4 y0 y1 y2 hS1 hS2 hzs hb hk
        go_upto_region 13 with fail
        have hzs := Hzs.out
        have hb2 := Hb2.out
        have hgl : wr.heap.size < (wr.alloc (.cells #[.string key, .slice a1 x1 ac1, .slice a2 x2 ac2] 57)).heap.size := by simp
        clear Hzs Hb2 z0 z1 z2
        generalize World.alloc _ _ = W7 at hzs hb2 hgl ⊢
        have hS0 := hzs.below (below_drew (Below.refl W7.heap.size W7)) hgl (by omega)
        obtain ⟨S, hS⟩ : ∃ S, ZF3 wr.heap.size b4 o4 k key (.slice a1 x1 ac1) (.slice a2 x2 ac2) (.slice u1 x1 uc1) (.slice u2 x2 uc2) = S := ⟨_, rfl⟩
        rw [hS] at hS0
        have Hk := hide (And.intro hzs hb2)
        clear hzs hb2
        refine wp_region_head 52 S (by rfl) (by kernel_rfl) ?_
        refine HT.take 0 (v := ?_) rfl (by kernel_rfl) (fun _ _ _ h => h) (Or.inl ⟨by rfl, ?_⟩) (by assumption) ?_
        rotate_left
        · intro W hSw; rw [← hS] at hSw; obtain ⟨s0, s1, s2, s3, s4, s5⟩ := hSw; go_simp; with_reducible rfl
        simp only [Act.put, List.setIfInBounds_toArray, List.set_cons_zero, List.set_cons_succ]
        refine HT.take 1 (v := ?_) rfl (by kernel_rfl) (fun _ _ _ h => h) (Or.inl ⟨by rfl, ?_⟩) (by assumption) ?_
        rotate_left
        · intro W hSw; rw [← hS] at hSw; obtain ⟨s0, s1, s2, s3, s4, s5⟩ := hSw; go_simp; with_reducible rfl
        simp only [Act.put, List.setIfInBounds_toArray, List.set_cons_zero, List.set_cons_succ]
        refine HT.take 2 (v := ?_) rfl (by kernel_rfl) (fun _ _ _ h => h) (Or.inl ⟨by rfl, ?_⟩) (by assumption) ?_
        rotate_left
        · intro W hSw; rw [← hS] at hSw; obtain ⟨s0, s1, s2, s3, s4, s5⟩ := hSw; go_simp; with_reducible rfl
        simp only [Act.put, List.setIfInBounds_toArray, List.set_cons_zero, List.set_cons_succ]
        refine HT.take 3 (v := ?_) rfl (by kernel_rfl) (fun _ _ _ h => h) (Or.inl ⟨by rfl, ?_⟩) (by assumption) ?_
        rotate_left
        · intro W hSw; rw [← hS] at hSw; obtain ⟨s0, s1, s2, s3, s4, s5⟩ := hSw; go_simp; with_reducible rfl
        simp only [Act.put, List.setIfInBounds_toArray, List.set_cons_zero, List.set_cons_succ]
        refine HT.take 4 (v := ?_) rfl (by kernel_rfl) (fun _ _ _ h => h) (Or.inl ⟨by rfl, ?_⟩) (by assumption) ?_
        rotate_left
        · intro W hSw; rw [← hS] at hSw; obtain ⟨s0, s1, s2, s3, s4, s5⟩ := hSw; go_simp; with_reducible rfl
        simp only [Act.put, List.setIfInBounds_toArray, List.set_cons_zero, List.set_cons_succ]
        refine HT.take 5 (v := ?_) rfl (by kernel_rfl) (fun _ _ _ h => h) (Or.inl ⟨by rfl, ?_⟩) (by assumption) ?_
        rotate_left
        · intro W hSw; rw [← hS] at hSw; obtain ⟨s0, s1, s2, s3, s4, s5⟩ := hSw; go_simp; with_reducible rfl
        simp only [Act.put, List.setIfInBounds_toArray, List.set_cons_zero, List.set_cons_succ]
        refine HT.take 6 (v := ?_) rfl (by kernel_rfl) (fun _ _ _ h => h) (Or.inl ⟨by rfl, ?_⟩) (by assumption) ?_
        rotate_left
        · intro W hSw; rw [← hS] at hSw; obtain ⟨s0, s1, s2, s3, s4, s5⟩ := hSw; go_simp; with_reducible rfl
        simp only [Act.put, List.setIfInBounds_toArray, List.set_cons_zero, List.set_cons_succ]
        refine HT.take 7 (v := ?_) rfl (by kernel_rfl) (fun _ _ _ h => h) (Or.inl ⟨by rfl, ?_⟩) (by assumption) ?_
        rotate_left
        · intro W hSw; rw [← hS] at hSw; obtain ⟨s0, s1, s2, s3, s4, s5⟩ := hSw; go_simp; with_reducible rfl
        simp only [Act.put, List.setIfInBounds_toArray, List.set_cons_zero, List.set_cons_succ]
        refine HT.take 8 (v := ?_) rfl (by kernel_rfl) (fun _ _ _ h => h) (Or.inl ⟨by rfl, ?_⟩) (by assumption) ?_
        rotate_left
        · intro W hSw; rw [← hS] at hSw; obtain ⟨s0, s1, s2, s3, s4, s5⟩ := hSw; go_simp; with_reducible rfl
        simp only [Act.put, List.setIfInBounds_toArray, List.set_cons_zero, List.set_cons_succ]
        refine HT.take 9 (v := ?_) rfl (by kernel_rfl) (fun _ _ _ h => h) (Or.inl ⟨by rfl, ?_⟩) (by assumption) ?_
        rotate_left
        · intro W hSw; rw [← hS] at hSw; obtain ⟨s0, s1, s2, s3, s4, s5⟩ := hSw; go_simp; with_reducible rfl
        simp only [Act.put, List.setIfInBounds_toArray, List.set_cons_zero, List.set_cons_succ]
        refine HT.take 10 (v := ?_) rfl (by kernel_rfl) (fun _ _ _ h => h) (Or.inl ⟨by rfl, ?_⟩) (by assumption) ?_
        rotate_left
        · intro W hSw; rw [← hS] at hSw; obtain ⟨s0, s1, s2, s3, s4, s5⟩ := hSw; go_simp; with_reducible rfl
        simp only [Act.put, List.setIfInBounds_toArray, List.set_cons_zero, List.set_cons_succ]
        refine HT.take 11 (v := ?_) rfl (by kernel_rfl) (fun _ _ _ h => h) (Or.inl ⟨by rfl, ?_⟩) (by assumption) ?_
        rotate_left
        · intro W hSw; rw [← hS] at hSw; obtain ⟨s0, s1, s2, s3, s4, s5⟩ := hSw; go_simp; with_reducible rfl
        simp only [Act.put, List.setIfInBounds_toArray, List.set_cons_zero, List.set_cons_succ]
        refine HT.take 12 (v := ?_) rfl (by kernel_rfl) (fun _ _ _ h => h) (Or.inl ⟨by rfl, ?_⟩) (by assumption) ?_
        rotate_left
        · intro W hSw; rw [← hS] at hSw; obtain ⟨s0, s1, s2, s3, s4, s5⟩ := hSw; go_simp; with_reducible rfl
        simp only [Act.put, List.setIfInBounds_toArray, List.set_cons_zero, List.set_cons_succ]
        refine HT.take 13 (v := ?_) rfl (by kernel_rfl) (fun _ _ _ h => h) (Or.inl ⟨by rfl, ?_⟩) (by assumption) ?_
        rotate_left
        · intro W hSw; rw [← hS] at hSw; obtain ⟨s0, s1, s2, s3, s4, s5⟩ := hSw; go_simp; with_reducible rfl
        simp only [Act.put, List.setIfInBounds_toArray, List.set_cons_zero, List.set_cons_succ]
        refine HT.take 14 (v := ?_) rfl (by kernel_rfl) (fun _ _ _ h => h) (Or.inl ⟨by rfl, ?_⟩) (by assumption) ?_
        rotate_left
        · intro W hSw; rw [← hS] at hSw; obtain ⟨s0, s1, s2, s3, s4, s5⟩ := hSw; go_simp; with_reducible rfl
        simp only [Act.put, List.setIfInBounds_toArray, List.set_cons_zero, List.set_cons_succ]
        refine HT.take 15 (v := ?_) rfl (by kernel_rfl) (fun _ _ _ h => h) (Or.inl ⟨by rfl, ?_⟩) (by assumption) ?_
        rotate_left
        · intro W hSw; rw [← hS] at hSw; obtain ⟨s0, s1, s2, s3, s4, s5⟩ := hSw; go_simp; with_reducible rfl
        simp only [Act.put, List.setIfInBounds_toArray, List.set_cons_zero, List.set_cons_succ]
        refine HT.take 16 (v := ?_) rfl (by kernel_rfl) (fun _ _ _ h => h) (Or.inl ⟨by rfl, ?_⟩) (by assumption) ?_
        rotate_left
        · intro W hSw; rw [← hS] at hSw; obtain ⟨s0, s1, s2, s3, s4, s5⟩ := hSw; go_simp; with_reducible rfl
        simp only [Act.put, List.setIfInBounds_toArray, List.set_cons_zero, List.set_cons_succ]
        refine HT.take 17 (v := ?_) rfl (by kernel_rfl) (fun _ _ _ h => h) (Or.inl ⟨by rfl, ?_⟩) (by assumption) ?_
        rotate_left
        · intro W hSw; rw [← hS] at hSw; obtain ⟨s0, s1, s2, s3, s4, s5⟩ := hSw; go_simp; with_reducible rfl
        simp only [Act.put, List.setIfInBounds_toArray, List.set_cons_zero, List.set_cons_succ]
        refine HT.take 18 (v := ?_) rfl (by kernel_rfl) (fun _ _ _ h => h) (Or.inl ⟨by rfl, ?_⟩) (by assumption) ?_
        rotate_left
        · intro W hSw; rw [← hS] at hSw; obtain ⟨s0, s1, s2, s3, s4, s5⟩ := hSw; go_simp; with_reducible rfl
        simp only [Act.put, List.setIfInBounds_toArray, List.set_cons_zero, List.set_cons_succ]
        refine HT.take 19 (v := ?_) rfl (by kernel_rfl) (fun _ _ _ h => h) (Or.inl ⟨by rfl, ?_⟩) (by assumption) ?_
        rotate_left
        · intro W hSw; rw [← hS] at hSw; obtain ⟨s0, s1, s2, s3, s4, s5⟩ := hSw; go_simp; with_reducible rfl
        simp only [Act.put, List.setIfInBounds_toArray, List.set_cons_zero, List.set_cons_succ]
        refine HT.take 20 (v := ?_) rfl (by kernel_rfl) (fun _ _ _ h => h) (Or.inl ⟨by rfl, ?_⟩) (by assumption) ?_
        rotate_left
        · intro W hSw; rw [← hS] at hSw; obtain ⟨s0, s1, s2, s3, s4, s5⟩ := hSw; go_simp; with_reducible rfl
        simp only [Act.put, List.setIfInBounds_toArray, List.set_cons_zero, List.set_cons_succ]
        refine HT.take 21 (v := ?_) rfl (by kernel_rfl) (fun _ _ _ h => h) (Or.inl ⟨by rfl, ?_⟩) (by assumption) ?_
        rotate_left
        · intro W hSw; rw [← hS] at hSw; obtain ⟨s0, s1, s2, s3, s4, s5⟩ := hSw; go_simp; with_reducible rfl
        simp only [Act.put, List.setIfInBounds_toArray, List.set_cons_zero, List.set_cons_succ]
        refine HT.take 22 (v := ?_) rfl (by kernel_rfl) (fun _ _ _ h => h) (Or.inl ⟨by rfl, ?_⟩) (by assumption) ?_
        rotate_left
        · intro W hSw; rw [← hS] at hSw; obtain ⟨s0, s1, s2, s3, s4, s5⟩ := hSw; go_simp; with_reducible rfl
        simp only [Act.put, List.setIfInBounds_toArray, List.set_cons_zero, List.set_cons_succ]
        refine HT.take 23 (v := ?_) rfl (by kernel_rfl) (fun _ _ _ h => h) (Or.inl ⟨by rfl, ?_⟩) (by assumption) ?_
        rotate_left
        · intro W hSw; rw [← hS] at hSw; obtain ⟨s0, s1, s2, s3, s4, s5⟩ := hSw; go_simp; with_reducible rfl
        simp only [Act.put, List.setIfInBounds_toArray, List.set_cons_zero, List.set_cons_succ]
        refine HT.take 24 (v := ?_) rfl (by kernel_rfl) (fun _ _ _ h => h) (Or.inl ⟨by rfl, ?_⟩) (by assumption) ?_
        rotate_left
        · intro W hSw; rw [← hS] at hSw; obtain ⟨s0, s1, s2, s3, s4, s5⟩ := hSw; go_simp; with_reducible rfl
        simp only [Act.put, List.setIfInBounds_toArray, List.set_cons_zero, List.set_cons_succ]
        refine HT.take 25 (v := ?_) rfl (by kernel_rfl) (fun _ _ _ h => h) (Or.inl ⟨by rfl, ?_⟩) (by assumption) ?_
        rotate_left
        · intro W hSw; rw [← hS] at hSw; obtain ⟨s0, s1, s2, s3, s4, s5⟩ := hSw; go_simp; with_reducible rfl
        simp only [Act.put, List.setIfInBounds_toArray, List.set_cons_zero, List.set_cons_succ]
        refine HT.take 26 (v := ?_) rfl (by kernel_rfl) (fun _ _ _ h => h) (Or.inl ⟨by rfl, ?_⟩) (by assumption) ?_
        rotate_left
        · intro W hSw; rw [← hS] at hSw; obtain ⟨s0, s1, s2, s3, s4, s5⟩ := hSw; go_simp; with_reducible rfl
        simp only [Act.put, List.setIfInBounds_toArray, List.set_cons_zero, List.set_cons_succ]
        refine HT.take 27 (v := ?_) rfl (by kernel_rfl) (fun _ _ _ h => h) (Or.inl ⟨by rfl, ?_⟩) (by assumption) ?_
        rotate_left
        · intro W hSw; rw [← hS] at hSw; obtain ⟨s0, s1, s2, s3, s4, s5⟩ := hSw; go_simp; with_reducible rfl
        simp only [Act.put, List.setIfInBounds_toArray, List.set_cons_zero, List.set_cons_succ]
        refine HT.take 28 (v := ?_) rfl (by kernel_rfl) (fun _ _ _ h => h) (Or.inl ⟨by rfl, ?_⟩) (by assumption) ?_
        rotate_left
        · intro W hSw; rw [← hS] at hSw; obtain ⟨s0, s1, s2, s3, s4, s5⟩ := hSw; go_simp; with_reducible rfl
        simp only [Act.put, List.setIfInBounds_toArray, List.set_cons_zero, List.set_cons_succ]
        refine HT.take 29 (v := ?_) rfl (by kernel_rfl) (fun _ _ _ h => h) (Or.inl ⟨by rfl, ?_⟩) (by assumption) ?_
        rotate_left
        · intro W hSw; rw [← hS] at hSw; obtain ⟨s0, s1, s2, s3, s4, s5⟩ := hSw; go_simp; with_reducible rfl
        simp only [Act.put, List.setIfInBounds_toArray, List.set_cons_zero, List.set_cons_succ]
        refine HT.take 30 (v := ?_) rfl (by kernel_rfl) (fun _ _ _ h => h) (Or.inl ⟨by rfl, ?_⟩) (by assumption) ?_
        rotate_left
        · intro W hSw; rw [← hS] at hSw; obtain ⟨s0, s1, s2, s3, s4, s5⟩ := hSw; go_simp; with_reducible rfl
        simp only [Act.put, List.setIfInBounds_toArray, List.set_cons_zero, List.set_cons_succ]
        refine HT.take 31 (v := ?_) rfl (by kernel_rfl) (fun _ _ _ h => h) (Or.inl ⟨by rfl, ?_⟩) (by assumption) ?_
        rotate_left
        · intro W hSw; rw [← hS] at hSw; obtain ⟨s0, s1, s2, s3, s4, s5⟩ := hSw; go_simp; with_reducible rfl
        simp only [Act.put, List.setIfInBounds_toArray, List.set_cons_zero, List.set_cons_succ]
        refine HT.take 32 (v := ?_) rfl (by kernel_rfl) (fun _ _ _ h => h) (Or.inl ⟨by rfl, ?_⟩) (by assumption) ?_
        rotate_left
        · intro W hSw; rw [← hS] at hSw; obtain ⟨s0, s1, s2, s3, s4, s5⟩ := hSw; go_simp; with_reducible rfl
        simp only [Act.put, List.setIfInBounds_toArray, List.set_cons_zero, List.set_cons_succ]
        refine HT.take 33 (v := ?_) rfl (by kernel_rfl) (fun _ _ _ h => h) (Or.inl ⟨by rfl, ?_⟩) (by assumption) ?_
        rotate_left
        · intro W hSw; rw [← hS] at hSw; obtain ⟨s0, s1, s2, s3, s4, s5⟩ := hSw; go_simp; with_reducible rfl
        simp only [Act.put, List.setIfInBounds_toArray, List.set_cons_zero, List.set_cons_succ]
        refine HT.take 34 (v := ?_) rfl (by kernel_rfl) (fun _ _ _ h => h) (Or.inl ⟨by rfl, ?_⟩) (by assumption) ?_
        rotate_left
        · intro W hSw; rw [← hS] at hSw; obtain ⟨s0, s1, s2, s3, s4, s5⟩ := hSw; go_simp; with_reducible rfl
        simp only [Act.put, List.setIfInBounds_toArray, List.set_cons_zero, List.set_cons_succ]
        refine HT.take 35 (v := ?_) rfl (by kernel_rfl) (fun _ _ _ h => h) (Or.inl ⟨by rfl, ?_⟩) (by assumption) ?_
        rotate_left
        · intro W hSw; rw [← hS] at hSw; obtain ⟨s0, s1, s2, s3, s4, s5⟩ := hSw; go_simp; with_reducible rfl
        simp only [Act.put, List.setIfInBounds_toArray, List.set_cons_zero, List.set_cons_succ]
        refine HT.take 36 (v := ?_) rfl (by kernel_rfl) (fun _ _ _ h => h) (Or.inl ⟨by rfl, ?_⟩) (by assumption) ?_
        rotate_left
        · intro W hSw; rw [← hS] at hSw; obtain ⟨s0, s1, s2, s3, s4, s5⟩ := hSw; go_simp; with_reducible rfl
        simp only [Act.put, List.setIfInBounds_toArray, List.set_cons_zero, List.set_cons_succ]
        refine HT.take 37 (v := ?_) rfl (by kernel_rfl) (fun _ _ _ h => h) (Or.inl ⟨by rfl, ?_⟩) (by assumption) ?_
        rotate_left
        · intro W hSw; rw [← hS] at hSw; obtain ⟨s0, s1, s2, s3, s4, s5⟩ := hSw; go_simp; with_reducible rfl
        simp only [Act.put, List.setIfInBounds_toArray, List.set_cons_zero, List.set_cons_succ]
        refine HT.take 38 (v := ?_) rfl (by kernel_rfl) (fun _ _ _ h => h) (Or.inl ⟨by rfl, ?_⟩) (by assumption) ?_
        rotate_left
        · intro W hSw; rw [← hS] at hSw; obtain ⟨s0, s1, s2, s3, s4, s5⟩ := hSw; go_simp; with_reducible rfl
        simp only [Act.put, List.setIfInBounds_toArray, List.set_cons_zero, List.set_cons_succ]
        refine HT.take 39 (v := ?_) rfl (by kernel_rfl) (fun _ _ _ h => h) (Or.inl ⟨by rfl, ?_⟩) (by assumption) ?_
        rotate_left
        · intro W hSw; rw [← hS] at hSw; obtain ⟨s0, s1, s2, s3, s4, s5⟩ := hSw; go_simp; with_reducible rfl
        simp only [Act.put, List.setIfInBounds_toArray, List.set_cons_zero, List.set_cons_succ]
        refine HT.one 40 rfl (by kernel_rfl) (by rfl) (fun K hK => ?_)
        go_simp
        refine (HS1.out W7.drew (below_drew Hk.out.2)).mono ?_
        rintro e w9 ⟨rfl, hb9⟩
        have hb9' : Below W7.heap.size W7 w9 := below_drew' hb9
        go_simp
        refine hK.out _ _ (by rw [← hS]; exact Hk.out.1.below hb9' hgl (by omega)) ?_
        clear hK
        have hS0 : S w9 := by rw [← hS]; exact Hk.out.1.below hb9' hgl (by omega)
        refine HT.take 41 (v := ?_) rfl (by kernel_rfl) (fun _ _ _ h => h) (Or.inl ⟨by rfl, ?_⟩) (by assumption) ?_
        rotate_left
        · intro W hSw; rw [← hS] at hSw; obtain ⟨s0, s1, s2, s3, s4, s5⟩ := hSw; go_simp; with_reducible rfl
        simp only [Act.put, List.setIfInBounds_toArray, List.set_cons_zero, List.set_cons_succ]
        refine HT.take 42 (v := ?_) rfl (by kernel_rfl) (fun _ _ _ h => h) (Or.inl ⟨by rfl, ?_⟩) (by assumption) ?_
        rotate_left
        · intro W hSw; rw [← hS] at hSw; obtain ⟨s0, s1, s2, s3, s4, s5⟩ := hSw; go_simp; with_reducible rfl
        simp only [Act.put, List.setIfInBounds_toArray, List.set_cons_zero, List.set_cons_succ]
        refine HT.take 43 (v := ?_) rfl (by kernel_rfl) (fun _ _ _ h => h) (Or.inl ⟨by rfl, ?_⟩) (by assumption) ?_
        rotate_left
        · intro W hSw; rw [← hS] at hSw; obtain ⟨s0, s1, s2, s3, s4, s5⟩ := hSw; go_simp; with_reducible rfl
        simp only [Act.put, List.setIfInBounds_toArray, List.set_cons_zero, List.set_cons_succ]
        refine HT.take 44 (v := ?_) rfl (by kernel_rfl) (fun _ _ _ h => h) (Or.inl ⟨by rfl, ?_⟩) (by assumption) ?_
        rotate_left
        · intro W hSw; rw [← hS] at hSw; obtain ⟨s0, s1, s2, s3, s4, s5⟩ := hSw; go_simp; with_reducible rfl
        simp only [Act.put, List.setIfInBounds_toArray, List.set_cons_zero, List.set_cons_succ]
        refine HT.take 45 (v := ?_) rfl (by kernel_rfl) (fun _ _ _ h => h) (Or.inl ⟨by rfl, ?_⟩) (by assumption) ?_
        rotate_left
        · intro W hSw; rw [← hS] at hSw; obtain ⟨s0, s1, s2, s3, s4, s5⟩ := hSw; go_simp; with_reducible rfl
        simp only [Act.put, List.setIfInBounds_toArray, List.set_cons_zero, List.set_cons_succ]
        refine HT.take 46 (v := ?_) rfl (by kernel_rfl) (fun _ _ _ h => h) (Or.inl ⟨by rfl, ?_⟩) (by assumption) ?_
        rotate_left
        · intro W hSw; rw [← hS] at hSw; obtain ⟨s0, s1, s2, s3, s4, s5⟩ := hSw; go_simp; with_reducible rfl
        simp only [Act.put, List.setIfInBounds_toArray, List.set_cons_zero, List.set_cons_succ]
        refine HT.take 47 (v := ?_) rfl (by kernel_rfl) (fun _ _ _ h => h) (Or.inl ⟨by rfl, ?_⟩) (by assumption) ?_
        rotate_left
        · intro W hSw; rw [← hS] at hSw; obtain ⟨s0, s1, s2, s3, s4, s5⟩ := hSw; go_simp; with_reducible rfl
        simp only [Act.put, List.setIfInBounds_toArray, List.set_cons_zero, List.set_cons_succ]
        refine HT.take 48 (v := ?_) rfl (by kernel_rfl) (fun _ _ _ h => h) (Or.inl ⟨by rfl, ?_⟩) (by assumption) ?_
        rotate_left
        · intro W hSw; rw [← hS] at hSw; obtain ⟨s0, s1, s2, s3, s4, s5⟩ := hSw; go_simp; with_reducible rfl
        simp only [Act.put, List.setIfInBounds_toArray, List.set_cons_zero, List.set_cons_succ]
        refine HT.take 49 (v := ?_) rfl (by kernel_rfl) (fun _ _ _ h => h) (Or.inl ⟨by rfl, ?_⟩) (by assumption) ?_
        rotate_left
        · intro W hSw; rw [← hS] at hSw; obtain ⟨s0, s1, s2, s3, s4, s5⟩ := hSw; go_simp; with_reducible rfl
        simp only [Act.put, List.setIfInBounds_toArray, List.set_cons_zero, List.set_cons_succ]
        refine HT.take 50 (v := ?_) rfl (by kernel_rfl) (fun _ _ _ h => h) (Or.inl ⟨by rfl, ?_⟩) (by assumption) ?_
        rotate_left
        · intro W hSw; rw [← hS] at hSw; obtain ⟨s0, s1, s2, s3, s4, s5⟩ := hSw; go_simp; with_reducible rfl
        simp only [Act.put, List.setIfInBounds_toArray, List.set_cons_zero, List.set_cons_succ]
        refine HT.one 51 rfl (by kernel_rfl) (by rfl) (fun K hK => ?_)
        go_simp
        refine (HS2.out w9 (Hk.out.2.trans (hb9'.mono Hk.out.2.size))).mono ?_
        rintro e w10 ⟨rfl, hb10⟩
        have hb10' : Below W7.heap.size W7 w10 := hb9'.trans (hb10.mono hb9'.size)
        go_simp
        refine hK.out _ _ (by rw [← hS]; exact Hk.out.1.below hb10' hgl (by omega)) ?_
        clear hK
        refine HT.done (by kernel_rfl) ?_
        simp only [List.drop_succ_cons, List.drop_zero]
        have Hbz := hide (Hk.out.2.trans (hb10'.mono Hk.out.2.size))
        clear hb9 hb9' hb10 hb10' hS0 hS Hk
        go_wp2_with fail
        exact ⟨⟨k + 1, rfl, hlt, Hbz.out⟩, by simp [intOf]; omega⟩
      · have hke : k = kk.length := by omega
        subst hke
        have Hfin := hide (Hb.out.trans (hb.mono Hb.out.size))
        clear hb hk
        go_wp2
        go_ret
        exact ⟨rfl, Hfin.out⟩

end Go.Proofs.Ytekaainjpddklaa
