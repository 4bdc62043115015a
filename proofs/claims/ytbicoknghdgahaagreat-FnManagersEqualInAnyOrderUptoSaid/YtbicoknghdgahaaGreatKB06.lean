/- Parts: ToElem, ElemImpl, Listing. -/
import Derived.Test.YtbicoknghdgahaaGreatKB05
set_option linter.unusedVariables false
set_option linter.unusedSimpArgs false
namespace Go.Proofs.YtbicoknghdgahaaGreat
open Go.RowKit
attribute [local go_sem] run_store_float

theorem zipK_zero (keys : List ByteArray) (l : List RV) : zipK keys l 0 = [] := by simp [zipK]
theorem zipK_length (keys : List ByteArray) (l : List RV) (k : Nat) : (zipK keys l k).length = min k (min keys.length l.length) := by simp [zipK]
theorem zipK_succ (keys : List ByteArray) (l : List RV) (k : Nat) (h1 : k < keys.length) (h2 : k < l.length) : zipK keys l (k + 1) = zipK keys l k ++ [(keys[k], l[k].tree)] := by
 unfold zipK
 rw [List.take_succ_eq_append_getElem (by simp; omega)]
 simp
theorem zipK_stay (keys : List ByteArray) (l : List RV) (k : Nat) (h2 : l.length ≤ k) : zipK keys l (k + 1) = zipK keys l k := by
 unfold zipK
 rw [List.take_of_length_le (by simp; omega), List.take_of_length_le (by simp; omega)]
theorem zipK_all (keys : List ByteArray) (l : List RV) : zipK keys l keys.length = keys.zip (l.map RV.tree) := by
 unfold zipK
 rw [List.take_of_length_le (by simp; omega)]

set_option maxRecDepth 100000 in
set_option maxHeartbeats 2000000 in
theorem toKeys_calls (r : REl) (w : World) (cs : List Value) (h : ElemAt (Old w) w r cs) : Calls Tryz.prog 112 #[.agg cs.toArray] w (GivesFL (r.keys.zip (r.l.map RV.tree)) w) := by
 obtain ⟨i234, hi, hz, hs, hby⟩ := info_parts field_info
 cases h with
 | @mk kind n s keys l v KA LA kc lc v0 v1 v2 v3 vA vB vn vc vm vd h1 h2 h3 h4 h5 =>
 simp only
 rw [← zipK_all]
 cases h3 with
 | @mk _ _ _ _ _ _ _ _ _ _ xs g1 g2 g3 g4 g5 g6 g7 g8 g9 g10 g11 hK hL hx =>
 have hkl : keys.length ≤ 8796093022208 := by unfold R47 at g6; omega
 have hll : l.length * 88 ≤ 140737488351232 := g7
 have HK := hide hK
 have HL := hide hL
 have HX := hide hx
 have H5 := hide g5
 clear h1 h2 h4 h5 g1 g2 g3 g4 g5 g6 g7 g8 g9 g10 g11 hK hL hx
 go_enter Tryz.func112, Tryz.ntmps112
 go_wp2_with fail
 have hbox := (Bk.new w 29 #[.int .i64 kind, .string s, .slice KA keys.length kc, .slice LA l.length lc, .int .i64 v0, .int .i64 v1, .float .f64 v2, .string v3, .slice vA vn vc, .slice vB vm vd, .int .i64 n]).alloc (.cells #[] 271)
 have hb0 : Below w.heap.size w ((w.alloc (.cells #[.int .i64 kind, .string s, .slice KA keys.length kc, .slice LA l.length lc, .int .i64 v0, .int .i64 v1, .float .f64 v2, .string v3, .slice vA vn vc, .slice vB vm vd, .int .i64 n] 29)).alloc (.cells #[] 271)) := below_two _ _ _
 have hown0 := World.ownsRow_lit (base := w.heap.size + 1) (e := 271) (size := 2) (w.alloc (.cells #[.int .i64 kind, .string s, .slice KA keys.length kc, .slice LA l.length lc, .int .i64 v0, .int .i64 v1, .float .f64 v2, .string v3, .slice vA vn vc, .slice vB vm vd, .int .i64 n] 29)) #[] 0 (by simp) (by simp [maxLen]) (by simp)
 rw [World.size_alloc] at hown0
 have hz0 : w.heap.size + 1 ≤ ((w.alloc (.cells #[.int .i64 kind, .string s, .slice KA keys.length kc, .slice LA l.length lc, .int .i64 v0, .int .i64 v1, .float .f64 v2, .string v3, .slice vA vn vc, .slice vB vm vd, .int .i64 n] 29)).alloc (.cells #[] 271)).heap.size := by simp
 have H0 := hide (And.intro hbox (And.intro hb0 (And.intro hown0 hz0)))
 clear hbox hb0 hown0 hz0
 go_loopw [3, 10] (fun out ctr wr => TKInv w keys l (w.heap.size + 1) out ctr wr ∧ Bk wr w.heap.size 29 #[.int .i64 kind, .string s, .slice KA keys.length kc, .slice LA l.length lc, .int .i64 v0, .int .i64 v1, .float .f64 v2, .string v3, .slice vA vn vc, .slice vB vm vd, .int .i64 n]) (fun _ ctr _ => keys.length - (intOf ctr).toNat)
 case atStart => exact ⟨⟨0, [], Nat.zero_le _, rfl, by rw [zipK_zero]; exact H0.out.2.2.1, by rw [zipK_zero]; exact Cells.nil_, H0.out.2.1, H0.out.2.2.2⟩, H0.out.1⟩
 case round =>
  obtain ⟨⟨k, us, hk, rfl, hown, hus, hb, hB⟩, hbx⟩ := hrel
  have hzl := zipK_length keys l k
  have hlt0 := hown.lt
  by_cases hlt : k < keys.length
  ·obtain ⟨b, o, rfl, hF, hkc⟩ := row1_at (u := .string keys[k]) HK.out hlt (by simp [hlt])
   rw [← (bcell hb).1 _ _ hF] at hkc
   have hk47 := H5.out _ (List.getElem_mem hlt)
   have q3 := hbx.cell 3
   simp at q3
   have hki0 : (0 : Int) ≤ (k : Int) := Int.natCast_nonneg _
   have hki1 : (k : Int) < (keys.length : Int) := by omega
   by_cases hl' : k < l.length
   ·have hsn := zipK_succ keys l k hlt hl'
    generalize keys[k] = key at hsn hkc hk47
    have hgk : l[k]? = some l[k] := List.getElem?_eq_getElem hl'
    have hv := HX.out k _ hgk
    generalize l[k] = rv at hsn hv
    generalize hcs : (xs.drop (k * 6)).take 6 = vcs at hv
    obtain ⟨x0, x1, x2, x3, xA, xn, xc, yA, yn, yc, rfl⟩ := hv.form
    obtain ⟨b', o', rfl, hF', k0, k1, k2, k3, k4, k5⟩ := row6_at HL.out hl' hcs
    rw [← (bcell hb).1 _ _ hF'] at k0 k1 k2 k3 k4 k5
    have Hv := hide (toValue_calls rv wr _ (hv.at_ hb))
    have hki2 : (k : Int) < (l.length : Int) := by omega
    have Hst := fun w1 w2 g out' o2 => hide (fun hvv hb1 hown2 hg2 hat => tk_step (w1 := w1) (w2 := w2) (g := g) (out' := out') (o2 := o2) (key := key) (t := rv.tree) (Nat.le_succ _) hown hus hb hB hk47 hvv hb1 hown2 hg2 hat)
    obtain ⟨oA, oc, rfl, _, _⟩ := own_form hown
    have Hown := hide (And.intro hown (And.intro hbx hB))
    have Hsn := hide hsn
    have hn32 : (zipK keys l k).length + 1 ≤ 8796093022208 := by omega
    have hn33 : ((zipK keys l k).length + 1) * 32 ≤ 140737488355328 := by omega
    have hwl : w.heap.size < wr.heap.size := hbx.lt
    obtain ⟨m, hm⟩ : ∃ m, (zipK keys l k).length = m := ⟨_, rfl⟩
    rw [hm] at Hown Hst hn32 hn33 ⊢
    have Hm := hide hm
    clear hm hown hus hb hbx hsn hzl hlt0 hF hF' hv hcs hgk hk
    go_wp2_with fail
    refine Hv.out.mono ?_
    rintro e w1 ⟨v, rfl, ⟨g, u, rfl, hgF, hBu, hu⟩, hb1⟩
    have Hvv := hide (And.intro (show ValAt (Fr wr.heap.size w1) w1 rv.tree (.iface 302 (.pointer (some ⟨g, 0, none⟩))) from ⟨g, u, rfl, hgF, hBu, hu⟩) hb1)
    have hs1 := hb1.size
    clear hBu hu hgF hb1
    go_wp2_with (at_builtin; refine wpList_append_own_at _ rfl (.tmp 20) (.tmp 29) 198 rfl (w.heap.size + 1) 271 i234 _ 2 32 Tryz.underlying198 hi hz hs hby rfl (by omega) _ m us rfl ((ownsRow_below Hown.out.1 Hvv.out.2 (Nat.le_refl _)).alloc _) ⟨w1.heap.size, 0, none⟩ 1 1 [.string key, .iface 302 (.pointer (some ⟨g, 0, none⟩))] rfl rfl (cells_at _ [.string key, .iface 302 (.pointer (some ⟨g, 0, none⟩))] _ _ rfl) ?c1 ?c2 ?c3 ?c4 ?_)
    case c1 => simp [Value.oneCell']
    case c2 => unfold maxLen; omega
    case c3 => exact hn33
    case c4 => have := Hown.out.2.2; simp only [World.size_alloc]; omega
    intro out' w2 hown2 hg2 _ hat2
    have hbx2 : Bk w2 w.heap.size 29 #[.int .i64 kind, .string s, .slice (some ⟨b, o, none⟩) keys.length kc, .slice (some ⟨b', o', none⟩) l.length lc, .int .i64 v0, .int .i64 v1, .float .f64 v2, .string v3, .slice vA vn vc, .slice vB vm vd, .int .i64 n] := ((Hown.out.2.1.below Hvv.out.2 hwl).alloc _).grown hg2 (fun e => by have := (Hown.out.1.lt _ e.symm).1; omega)
    have Hfin := hide (And.intro ((Hst w1 w2 _ out' _).out Hvv.out.1 Hvv.out.2 hown2 hg2 (by rw [World.size_alloc]; exact hat2)) (And.intro hown2 hbx2))
    obtain ⟨nA, nc, rfl, _, _⟩ := own_form hown2
    clear Hst hown2 hg2 hat2 hbx2 Hown Hvv q3 hkc k0 k1 k2 k3 k4 k5
    go_wp2_with fail
    refine ⟨⟨⟨k + 1, us ++ [.string key, .iface 302 (.pointer (some ⟨g, 0, none⟩))], hlt, rfl, ?_, ?_, Hfin.out.1.2⟩, Hfin.out.2.2⟩, by simp [intOf]; omega⟩
    ·rw [Hsn.out, List.length_append, Hm.out]
     exact Hfin.out.2.1
    ·rw [Hsn.out]
     exact Hfin.out.1.1
   ·have hst := zipK_stay keys l k (by omega)
    have Hfin := hide (And.intro hown (And.intro hus (And.intro hb (And.intro hB (And.intro hbx hst)))))
    have hki2 : ¬ (k : Int) < (l.length : Int) := by omega
    obtain ⟨A, c, rfl, hc1, hc2⟩ := own_form hown
    obtain ⟨m, hm⟩ : ∃ m, (zipK keys l k).length = m := ⟨_, rfl⟩
    rw [hm] at Hfin ⊢
    have Hm := hide hm
    clear hown hus hb hB hbx hst hzl hlt0 hm hF hc1
    go_wp2_with fail
    refine ⟨⟨⟨k + 1, us, hlt, rfl, ?_, ?_, Hfin.out.2.2.1, Hfin.out.2.2.2.1⟩, Hfin.out.2.2.2.2.1⟩, by simp [intOf]; omega⟩
    ·rw [Hfin.out.2.2.2.2.2, Hm.out]
     exact Hfin.out.1
    ·rw [Hfin.out.2.2.2.2.2]
     exact Hfin.out.2.1
  ·have hke : k = keys.length := by omega
   subst hke
   have Hfin := hide (And.intro hown (And.intro hus hb))
   have Hz := hide hzl
   obtain ⟨A, c, rfl, hc1, hc2⟩ := own_form hown
   clear hown hus hb hbx hB hlt0 hzl
   go_wp2
   go_ret
   have hlt := Hfin.out.1.lt
   refine ⟨A, c, rfl, ⟨hc1, hc2, by have := Hz.out; unfold R47; omega, us, Row.of_own Hfin.out.1 fun g hg => ?_, Hfin.out.2.1.mono fun a cs h => h.mono fun b hb => ?_⟩, Hfin.out.2.2⟩
   ·have := hlt g hg
    exact ⟨by omega, this.2⟩
   ·exact ⟨by have := hb.1; omega, hb.2.1⟩

def set4 (w : World) (g : Nat) (a b c d : Value) : World := (((w.setCell ⟨g, 0, none⟩ a).setCell ⟨g, 1, none⟩ b).setCell ⟨g, 2, none⟩ c).setCell ⟨g, 3, none⟩ d
theorem set4_same {w : World} {g : Nat} {t : TypeId} {a0 a1 a2 a3 : Value} (a b c d : Value) (h : Bk w g t #[a0, a1, a2, a3]) : Bk (set4 w g a b c d) g t #[a, b, c, d] := by
 have := (((h.set_ 0 a).set_ 1 b).set_ 2 c).set_ 3 d
 simpa [set4] using this
theorem set4_heap (w : World) (g : Nat) (a b c d : Value) (x : Nat) (h : x ≠ g) : (set4 w g a b c d).heap[x]? = w.heap[x]? := by
 unfold set4
 rw [Below.heap_setCell _ _ _ _ h, Below.heap_setCell _ _ _ _ h, Below.heap_setCell _ _ _ _ h, Below.heap_setCell _ _ _ _ h]
theorem set4_size (w : World) (g : Nat) (a b c d : Value) : (set4 w g a b c d).heap.size = w.heap.size := by simp [set4]
theorem set4_below {a w : World} {B g : Nat} (c0 c1 c2 c3 : Value) (h : Below B a w) (hB : B ≤ g) : Below B a (set4 w g c0 c1 c2 c3) := (((h.setCell hB _).setCell hB _).setCell hB _).setCell hB _

theorem pe_ret {fn : Func} {p : Tmp} (hfn : fn.results = #[.cell p 109]) (tmps : Array Value) {w w1 : World} {e : E} {p0 p1 p2 p3 a0 a1 a2 a3 : Value} (hR : Bk w1 (w.heap.size + 1) 109 #[a0, a1, a2, a3]) (hb : Below w.heap.size w w1)
  (hv : PEAt (fun b => w.heap.size + 2 ≤ b ∧ b < w1.heap.size) w1 e [p0, p1, p2, p3]) (hp : tmps.getD p undef = .pointer (some ⟨w.heap.size + 1, 0, none⟩)) :
  bodyPost Tryz.prog fn (GivesPE e w) .ret { tmps := tmps, defers := [] } (set4 w1 (w.heap.size + 1) p0 p1 p2 p3) := by
 refine bodyPost_ret (results_cell_row hfn _ _ (w.heap.size + 1) 109 #[p0, p1, p2, p3] (0, 0) _ hp (set4_same _ _ _ _ hR) Tryz.underlying109 rfl (by kernel_rfl)) rfl ?_
 exact ⟨_, rfl, (hv.keeps fun b hb => set4_heap _ _ _ _ _ _ _ (by have := hb.1; omega)).mono fun b hb => ⟨by have := hb.1; omega, by rw [set4_size]; exact hb.2⟩, set4_below _ _ _ _ hb (by omega)⟩

set_option maxRecDepth 100000 in
set_option maxHeartbeats 2000000 in
theorem toElem_calls (r : REl) (w : World) (cs : List Value) (h : ElemAt (Old w) w r cs) : Calls Tryz.prog 61 #[.agg cs.toArray] w (GivesPE r.elem w) := by
 have HK := hide fun (W : World) (hb : Below w.heap.size w W) => toKeys_calls r W cs (h.at_ hb)
 cases h with
 | @mk kind n s keys l v KA LA kc lc v0 v1 v2 v3 vA vB vn vc vm vd h1 h2 h3 h4 h5 =>
 have HV := hide fun (W : World) (hb : Below w.heap.size w W) => toValue_calls v W _ (h4.at_ hb)
 have H := hide (And.intro h2 h5)
 clear h1 h2 h3 h4 h5
 have hb0 := below_two w (.cells #[.int .i64 kind, .string s, .slice KA keys.length kc, .slice LA l.length lc, .int .i64 v0, .int .i64 v1, .float .f64 v2, .string v3, .slice vA vn vc, .slice vB vm vd, .int .i64 n] 29) (.cells #[.pointer none, .pointer none, .pointer none, .pointer none] 109)
 have hbx := (Bk.new w 29 #[.int .i64 kind, .string s, .slice KA keys.length kc, .slice LA l.length lc, .int .i64 v0, .int .i64 v1, .float .f64 v2, .string v3, .slice vA vn vc, .slice vB vm vd, .int .i64 n]).alloc (.cells #[.pointer none, .pointer none, .pointer none, .pointer none] 109)
 have hR := Bk.new (w.alloc (.cells #[.int .i64 kind, .string s, .slice KA keys.length kc, .slice LA l.length lc, .int .i64 v0, .int .i64 v1, .float .f64 v2, .string v3, .slice vA vn vc, .slice vB vm vd, .int .i64 n] 29)) 109 #[.pointer none, .pointer none, .pointer none, .pointer none]
 rw [World.size_alloc] at hR
 have H0 := hide (And.intro hb0 (And.intro hbx hR))
 clear hb0 hbx hR
 by_cases k1 : kind = 1
 ·subst k1
  have he : REl.elem ⟨1, s, keys, l, v, n⟩ = .key (keys.zip (l.map RV.tree)) := by simp [REl.elem]
  rw [he]
  generalize keys.zip (l.map RV.tree) = L at *
  clear he
  go_enter Tryz.func61, Tryz.ntmps61
  go_wp2_with fail
  refine (HK.out _ H0.out.1).mono ?_
  rintro e w1 ⟨A, c, rfl, hfl, hb1⟩
  have hw1 := H0.out.1.size
  have hs1 := hb1.size
  have hbw := H0.out.1.trans (hb1.mono H0.out.1.size)
  have hR1 := H0.out.2.2.below hb1 H0.out.2.2.lt
  have hl1 := hR1.lt
  have hl0 := H0.out.2.2.lt
  have Hx := hide (And.intro hfl (And.intro hbw hR1))
  clear hfl hb1 hbw hR1
  go_upto_region 4 with fail
  have hg := Bk.new w1 198 #[.slice A L.length c]
  have hR2 := Hx.out.2.2.alloc (.cells #[.slice A L.length c] 198)
  have hb2 := Hx.out.2.1.alloc (Nat.le_trans H0.out.1.size hs1) (.cells #[.slice A L.length c] 198)
  have hv2 : PEAt (fun b => w.heap.size + 2 ≤ b ∧ b < (w1.alloc (.cells #[.slice A L.length c] 198)).heap.size) (w1.alloc (.cells #[.slice A L.length c] 198)) (.key L) [.pointer none, .pointer (some ⟨w1.heap.size, 0, none⟩), .pointer none, .pointer none] :=
   .key ⟨by omega, by simp⟩ hg ((Hx.out.1.keeps (Keeps.alloc _ _ fun b hb => hb.2)).mono fun b hb => ⟨by have := hb.1; omega, by have := hb.2; simp; omega⟩)
  generalize World.alloc _ _ = w2 at hR2 hb2 hv2 hg ⊢
  obtain ⟨p0, p1, p2, p3⟩ : w2.cell? ⟨w.heap.size + 1, 0, none⟩ = some (.pointer none) ∧ w2.cell? ⟨w.heap.size + 1, 1, none⟩ = some (.pointer none) ∧ w2.cell? ⟨w.heap.size + 1, 2, none⟩ = some (.pointer none) ∧ w2.cell? ⟨w.heap.size + 1, 3, none⟩ = some (.pointer none) := ⟨hR2.cell 0, hR2.cell 1, hR2.cell 2, hR2.cell 3⟩
  have fz : ∀ i, w2.frozen? ⟨w.heap.size + 1, i, none⟩ = false := fun i => hR2.free i
  have Hf := hide (And.intro hR2 (And.intro hb2 hv2))
  clear hR2 hb2 hv2 hg
  go_wp2
  exact pe_ret rfl _ Hf.out.1 Hf.out.2.1 Hf.out.2.2 rfl
 have e1 : (kind == 1) = false := by simpa using k1
 by_cases k2 : kind = 2
 ·subst k2
  have he : REl.elem ⟨2, s, keys, l, v, n⟩ = .val v.tree := by simp [REl.elem]
  rw [he]
  generalize v.tree = t at *
  clear he
  go_enter Tryz.func61, Tryz.ntmps61
  go_wp2_with fail
  refine (HV.out _ H0.out.1).mono ?_
  rintro e w1 ⟨u, rfl, ⟨g, uu, rfl, hgF, hB, hu⟩, hb1⟩
  have hval : ValAt (Fr _ w1) w1 t (.iface 302 (.pointer (some ⟨g, 0, none⟩))) := ⟨g, uu, rfl, hgF, hB, hu⟩
  have hw1 := H0.out.1.size
  have hs1 := hb1.size
  have hbw := H0.out.1.trans (hb1.mono H0.out.1.size)
  have hR1 := H0.out.2.2.below hb1 H0.out.2.2.lt
  have hl1 := hR1.lt
  have hl0 := H0.out.2.2.lt
  have Hx := hide (And.intro hval (And.intro hbw hR1))
  clear hval hgF hB hu hb1 hbw hR1
  go_upto_region 7 with fail
  have hg := Bk.new w1 112 #[.iface 302 (.pointer (some ⟨g, 0, none⟩))]
  have hR2 := Hx.out.2.2.alloc (.cells #[.iface 302 (.pointer (some ⟨g, 0, none⟩))] 112)
  have hb2 := Hx.out.2.1.alloc (Nat.le_trans H0.out.1.size hs1) (.cells #[.iface 302 (.pointer (some ⟨g, 0, none⟩))] 112)
  have hv2 : PEAt (fun b => w.heap.size + 2 ≤ b ∧ b < (w1.alloc (.cells #[.iface 302 (.pointer (some ⟨g, 0, none⟩))] 112)).heap.size) (w1.alloc (.cells #[.iface 302 (.pointer (some ⟨g, 0, none⟩))] 112)) (.val t) [.pointer none, .pointer none, .pointer (some ⟨w1.heap.size, 0, none⟩), .pointer none] :=
   .val ⟨by omega, by simp⟩ hg ((Hx.out.1.keeps (Keeps.alloc _ _ fun b hb => hb.2)).mono fun b hb => ⟨by have := hb.1; omega, by have := hb.2; simp; omega⟩)
  generalize World.alloc _ _ = w2 at hR2 hb2 hv2 hg ⊢
  obtain ⟨p0, p1, p2, p3⟩ : w2.cell? ⟨w.heap.size + 1, 0, none⟩ = some (.pointer none) ∧ w2.cell? ⟨w.heap.size + 1, 1, none⟩ = some (.pointer none) ∧ w2.cell? ⟨w.heap.size + 1, 2, none⟩ = some (.pointer none) ∧ w2.cell? ⟨w.heap.size + 1, 3, none⟩ = some (.pointer none) := ⟨hR2.cell 0, hR2.cell 1, hR2.cell 2, hR2.cell 3⟩
  have fz : ∀ i, w2.frozen? ⟨w.heap.size + 1, i, none⟩ = false := fun i => hR2.free i
  have Hf := hide (And.intro hR2 (And.intro hb2 hv2))
  clear hR2 hb2 hv2 hg
  go_wp2
  exact pe_ret rfl _ Hf.out.1 Hf.out.2.1 Hf.out.2.2 rfl
 have e2 : (kind == 2) = false := by simpa using k2
 by_cases k3 : kind = 3
 ·subst k3
  have he : REl.elem ⟨3, s, keys, l, v, n⟩ = .idx n := by simp [REl.elem]
  rw [he]
  clear he
  go_enter Tryz.func61, Tryz.ntmps61
  go_upto_region 10 with fail
  have hb0 := H0.out.1
  have hR0 := H0.out.2.2
  have hs0 := hb0.size
  have hl0 := hR0.lt
  have hz1 : ((w.alloc (.cells #[.int .i64 3, .string s, .slice KA keys.length kc, .slice LA l.length lc, .int .i64 v0, .int .i64 v1, .float .f64 v2, .string v3, .slice vA vn vc, .slice vB vm vd, .int .i64 n] 29)).alloc (.cells #[.pointer none, .pointer none, .pointer none, .pointer none] 109)).heap.size = w.heap.size + 1 + 1 := by simp
  generalize World.alloc (World.alloc w _) _ = w1 at hb0 hR0 hs0 hl0 hz1 ⊢
  clear H0
  have hR2 := hR0.alloc (.cells #[.int .i64 n] 3)
  have hg := Bk.new w1 3 #[.int .i64 n]
  have hb2 := hb0.alloc (by omega) (.cells #[.int .i64 n] 3)
  have hv2 : PEAt (fun b => w.heap.size + 2 ≤ b ∧ b < (w1.alloc (.cells #[.int .i64 n] 3)).heap.size) (w1.alloc (.cells #[.int .i64 n] 3)) (.idx n) [.pointer none, .pointer none, .pointer none, .pointer (some ⟨w1.heap.size, 0, none⟩)] :=
   .idx H.out.2 ⟨by omega, by simp⟩ hg
  rw [hz1] at hv2
  generalize World.alloc _ _ = w2 at hR2 hb2 hv2 hg ⊢
  obtain ⟨p0, p1, p2, p3⟩ : w2.cell? ⟨w.heap.size + 1, 0, none⟩ = some (.pointer none) ∧ w2.cell? ⟨w.heap.size + 1, 1, none⟩ = some (.pointer none) ∧ w2.cell? ⟨w.heap.size + 1, 2, none⟩ = some (.pointer none) ∧ w2.cell? ⟨w.heap.size + 1, 3, none⟩ = some (.pointer none) := ⟨hR2.cell 0, hR2.cell 1, hR2.cell 2, hR2.cell 3⟩
  have fz : ∀ i, w2.frozen? ⟨w.heap.size + 1, i, none⟩ = false := fun i => hR2.free i
  have Hf := hide (And.intro hR2 (And.intro hb2 hv2))
  clear hR2 hb2 hv2 hg hR0 hb0 hz1
  go_wp2
  exact pe_ret rfl _ Hf.out.1 Hf.out.2.1 Hf.out.2.2 rfl
 have e3 : (kind == 3) = false := by simpa using k3
 have he : REl.elem ⟨kind, s, keys, l, v, n⟩ = .field s := by simp [REl.elem, k1, k2, k3]
 rw [he]
 clear he k1 k2 k3
 go_enter Tryz.func61, Tryz.ntmps61
 go_upto_region 12 with fail
 have hb0 := H0.out.1
 have hR0 := H0.out.2.2
 have hs0 := hb0.size
 have hl0 := hR0.lt
 have hz1 : ((w.alloc (.cells #[.int .i64 kind, .string s, .slice KA keys.length kc, .slice LA l.length lc, .int .i64 v0, .int .i64 v1, .float .f64 v2, .string v3, .slice vA vn vc, .slice vB vm vd, .int .i64 n] 29)).alloc (.cells #[.pointer none, .pointer none, .pointer none, .pointer none] 109)).heap.size = w.heap.size + 1 + 1 := by simp
 generalize World.alloc (World.alloc w _) _ = w1 at hb0 hR0 hs0 hl0 hz1 ⊢
 clear H0
 have hR2 := hR0.alloc (.cells #[.string s] 9)
 have hg := Bk.new w1 9 #[.string s]
 have hb2 := hb0.alloc (by omega) (.cells #[.string s] 9)
 have hv2 : PEAt (fun b => w.heap.size + 2 ≤ b ∧ b < (w1.alloc (.cells #[.string s] 9)).heap.size) (w1.alloc (.cells #[.string s] 9)) (.field s) [.pointer (some ⟨w1.heap.size, 0, none⟩), .pointer none, .pointer none, .pointer none] :=
  .field H.out.1 ⟨by omega, by simp⟩ hg
 rw [hz1] at hv2
 generalize World.alloc _ _ = w2 at hR2 hb2 hv2 hg ⊢
 obtain ⟨p0, p1, p2, p3⟩ : w2.cell? ⟨w.heap.size + 1, 0, none⟩ = some (.pointer none) ∧ w2.cell? ⟨w.heap.size + 1, 1, none⟩ = some (.pointer none) ∧ w2.cell? ⟨w.heap.size + 1, 2, none⟩ = some (.pointer none) ∧ w2.cell? ⟨w.heap.size + 1, 3, none⟩ = some (.pointer none) := ⟨hR2.cell 0, hR2.cell 1, hR2.cell 2, hR2.cell 3⟩
 have fz : ∀ i, w2.frozen? ⟨w.heap.size + 1, i, none⟩ = false := fun i => hR2.free i
 have Hf := hide (And.intro hR2 (And.intro hb2 hv2))
 clear hR2 hb2 hv2 hg hR0 hb0 hz1
 go_wp2
 exact pe_ret rfl _ Hf.out.1 Hf.out.2.1 Hf.out.2.2 rfl

end Go.Proofs.YtbicoknghdgahaaGreat

namespace Go.Proofs.YtbicoknghdgahaaGreat
open Go.RowKit
attribute [local go_sem] run_store_float

theorem Bk.cells11 {W : World} {g : Nat} {t : TypeId} {x0 x1 x2 x3 x4 x5 x6 x7 x8 x9 x10 : Value} (h : Bk W g t #[x0, x1, x2, x3, x4, x5, x6, x7, x8, x9, x10]) : W.cell? ⟨g, 0, none⟩ = some x0 ∧ W.cell? ⟨g, 1, none⟩ = some x1 ∧ W.cell? ⟨g, 2, none⟩ = some x2 ∧ W.cell? ⟨g, 3, none⟩ = some x3 ∧ W.cell? ⟨g, 4, none⟩ = some x4 ∧ W.cell? ⟨g, 5, none⟩ = some x5 ∧ W.cell? ⟨g, 6, none⟩ = some x6 ∧ W.cell? ⟨g, 7, none⟩ = some x7 ∧ W.cell? ⟨g, 8, none⟩ = some x8 ∧ W.cell? ⟨g, 9, none⟩ = some x9 ∧ W.cell? ⟨g, 10, none⟩ = some x10 := ⟨h.cell 0, h.cell 1, h.cell 2, h.cell 3, h.cell 4, h.cell 5, h.cell 6, h.cell 7, h.cell 8, h.cell 9, h.cell 10⟩

end Go.Proofs.YtbicoknghdgahaaGreat

namespace Go.Proofs.YtbicoknghdgahaaGreat
open Go.RowKit
attribute [local go_sem] run_store_float run_load_k

def LRV (l : List RV) : RV := .mk 5 0 0 ⟨#[]⟩ [] l
theorem LRV.tree (l : List RV) : (LRV l).tree = .list (l.map RV.tree) := by
 rw [LRV, RV.tree, treeL_eq]
 simp

set_option maxRecDepth 100000 in
set_option maxHeartbeats 1000000 in
theorem orderlyValues_calls (l : List RV) (A : Option Addr) (c : Nat) (w : World) (h : RVAt (Old w) w (LRV l) [.int .i64 5, .int .i64 0, .float .f64 0, .string ⟨#[]⟩, .slice none 0 0, .slice A l.length c]) :
  Calls Tryz.prog 69 #[.slice A l.length c] w (OrdPost (∀ i r, i < l.length → l[i]? = some r → r.tree.Ok) w) := by
 unfold LRV at h
 cases h with
 | @mk _ _ _ _ _ _ KA LA kc lc xs h1 h2 h3 h4 h5 h6 h7 h8 h9 h10 h11 hK hL hx =>
 have hll : l.length ≤ 8796093022208 := by unfold R47 at h7; omega
 have HL := hide hL
 have HX := hide hx
 clear h1 h2 h3 h4 h5 h6 h7 h8 h9 h10 h11 hK hL hx
 go_enter Tryz.func69, Tryz.ntmps69
 go_wp2
 go_loopw [7] (fun c wr => OInv w l (fun r => r.tree.Ok) c wr) (fun c _ => l.length - (intOf c).toNat)
 case atStart => exact ⟨0, rfl, Nat.zero_le _, fun i r hi => by omega, Below.refl _ _⟩
 case round =>
  obtain ⟨k, rfl, hk, hall, hb⟩ := hrel
  by_cases hlt : k < l.length
  ·have hgk : l[k]? = some l[k] := List.getElem?_eq_getElem hlt
   have hrk := HX.out k _ hgk
   generalize l[k] = r at hgk hrk
   have hkr := hrk
   generalize hcs : (xs.drop (k * 6)).take 6 = cs at hrk hkr
   cases hrk with
   | @mk kind' n' f' s' keys' l' KA' LA' kc' lc' xs' g1 g2 g3 g4 g5 g6 g7 g8 g9 g10 g11 g12 g13 g14 =>
   clear g1 g2 g3 g4 g5 g6 g7 g8 g9 g10 g11 g12 g13 g14
   obtain ⟨b, o, rfl, hF, k0, k1, k2, k3, k4, k5⟩ := row6_at HL.out hlt hcs
   rw [← (bcell hb).1 _ _ hF] at k0 k1 k2 k3 k4 k5
   have Hkr := hide hkr
   have Hgk := hide hgk
   have Hall := hide hall
   have Hb := hide hb
   have hki0 : (0 : Int) ≤ (k : Int) := Int.natCast_nonneg _
   have hki1 : (k : Int) < (l.length : Int) := by omega
   clear hcs hkr hgk hall hb
   go_wp2_with fail
   refine (orderly_all _ _ _ (Hkr.out.at_ (Hb.out.alloc Hb.out.size _))).mono ?_
   rintro e w1 ⟨bb, rfl, hbb, hb1'⟩
   have hbw := Hb.out.trans (((Below.refl _ _).alloc (Nat.le_refl _) _).trans (hb1'.mono (by simp)) |>.mono Hb.out.size)
   have Hbw := hide hbw
   have Hbb := hide hbb
   clear hbw hbb hb1' k0 k1 k2 k3 k4 k5
   cases bb
   ·go_wp2
    go_ret
    exact ⟨false, rfl, (fun h => by cases h), Hbw.out⟩
   ·go_wp2
    go_roundw
    case rel => exact ⟨k + 1, by go_num, hlt, OInv.next Hall.out Hgk.out (Hbb.out (by first | exact trivial | rfl)), Hbw.out⟩
    case measure => simp [intOf]; omega
  ·have hke : k = l.length := by omega
   subst hke
   have Hfin := hide hall
   clear hall
   go_wp2
   go_ret
   exact ⟨true, rfl, fun _ => Hfin.out, hb⟩

end Go.Proofs.YtbicoknghdgahaaGreat
