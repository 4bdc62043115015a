/-
  impl.toList, impl.CompareLists, impl.EqualLists; spec.OrderlyValues; laws.list, laws.fields.
-/
import Derived.Test.YtekaainjpddklaaMapping
set_option linter.unusedVariables false
set_option linter.unusedSimpArgs false
namespace Go.Proofs.Ytekaainjpddklaa
open Go.RowKit
attribute [local go_sem] run_store_float run_load_k meth_AsList meth_AsMap

/-- an interface value that is the package's list of these items -/
def ListV (F : Nat → Prop) (w : World) (l : List T) (v : Value) : Prop := ∃ A c, v = .iface 280 (.slice A l.length c) ∧ ListAt F w A l
theorem ListV.up {F : Nat → Prop} {w W : World} {l : List T} {v : Value} (h : ListV F w l v) (hF : ∀ b, F b → b < w.heap.size) (hb : Below w.heap.size w W) : ListV (Old W) W l v := by
  obtain ⟨A, c, rfl, h⟩ := h
  exact ⟨A, c, rfl, h.up hF hb⟩
theorem listCompareP {l1 l2 : List T} {v1 v2 : Value} {w : World} (h1 : ListV (Old w) w l1 v1) (h2 : ListV (Old w) w l2 v2) : Calls Try.prog 88 #[v1, v2] w (CmpPost (T.cmpL l1 l2) w) := by
  obtain ⟨r1, val1, rfl, h1⟩ := h1
  obtain ⟨r2, val2, rfl, h2⟩ := h2
  exact listCompareV_calls h1 h2
theorem listEqualsP {l1 l2 : List T} {v1 v2 : Value} {w : World} (h1 : ListV (Old w) w l1 v1) (h2 : ListV (Old w) w l2 v2) : Calls Try.prog 90 #[v1, v2] w (EqPost (T.eqvL l1 l2) w) := by
  obtain ⟨r1, val1, rfl, h1⟩ := h1
  obtain ⟨r2, val2, rfl, h2⟩ := h2
  exact listEqualsV_calls h1 h2

/-- a list of values, as the struct of kind list -/
def LRV (l : List RV) : RV := .mk 5 0 0 ⟨#[]⟩ [] l
theorem LRV.tree (l : List RV) : (LRV l).tree = .list (l.map RV.tree) := by
  rw [LRV, RV.tree, treeL_eq]
  simp

set_option maxRecDepth 100000 in
theorem toList_calls (l : List RV) (A : Option Addr) (c : Nat) (w : World) (h : RVAt (Old w) w (LRV l) [.int .i64 5, .int .i64 0, .float .f64 0, .string ⟨#[]⟩, .slice none 0 0, .slice A l.length c]) :
    Calls Try.prog 89 #[.slice A l.length c] w fun e w' => ∃ v, e = .returned v ∧ ListV (Fr w.heap.size w') w' (l.map RV.tree) v ∧ Below w.heap.size w w' := by
  have Hv := toValue_calls _ w _ h
  rw [LRV.tree] at Hv
  have Hv := hide Hv
  generalize l.map RV.tree = ts at Hv
  clear h
  go_enter Try.func89, Try.ntmps89
  go_wp2_with fail
  refine Hv.out.mono ?_
  rintro e w1 ⟨v, rfl, ⟨g, u, rfl, hg, hB, hu⟩, hb1⟩
  obtain ⟨A', c', rfl, hl⟩ := ListAt.of_any hu
  have hq : w1.cell? ⟨g, 0, none⟩ = some (.iface 184 (.slice A' ts.length c')) := by simpa using hB.cell 0
  have HL := hide (And.intro hl hb1)
  clear hB hu hl hg hb1
  go_wp2_with fail
  refine (AsList_calls A' ts.length c' w1).mono ?_
  rintro e w2 ⟨rfl, hb2⟩
  have Hfin := hide (And.intro (show ListV (Fr w.heap.size w2) w2 ts (.iface 280 (.slice A' ts.length c')) from ⟨A', c', rfl, by
    obtain ⟨h1, xs, h2, h3⟩ := HL.out.1
    have hk : Keeps (Fr w.heap.size w1) w1 w2 := Keeps.below hb2 fun b hb => hb.2
    have hm : ∀ b, Fr w.heap.size w1 b → Fr w.heap.size w2 b := fun b hb => ⟨hb.1, Nat.lt_of_lt_of_le hb.2 hb2.size⟩
    exact ⟨h1, xs, (h2.keeps hk).mono hm, h3.keeps hk hm⟩⟩) (HL.out.2.trans (hb2.mono HL.out.2.size)))
  clear hb2 hq
  go_wp2
  go_ret
  exact ⟨_, rfl, Hfin.out⟩

theorem implCompareLists_calls (l1 l2 : List RV) (A1 A2 : Option Addr) (c1 c2 : Nat) (w : World) (h1 : RVAt (Old w) w (LRV l1) [.int .i64 5, .int .i64 0, .float .f64 0, .string ⟨#[]⟩, .slice none 0 0, .slice A1 l1.length c1])
    (h2 : RVAt (Old w) w (LRV l2) [.int .i64 5, .int .i64 0, .float .f64 0, .string ⟨#[]⟩, .slice none 0 0, .slice A2 l2.length c2]) :
    Calls Try.prog 50 #[.slice A1 l1.length c1, .slice A2 l2.length c2] w (CmpPost (T.cmpL (l1.map RV.tree) (l2.map RV.tree)) w) := by
  have H1 := hide (toList_calls l1 A1 c1 w h1)
  have H2 := hide fun (W : World) (hb : Below w.heap.size w W) => toList_calls l2 A2 c2 W (h2.at_ hb)
  generalize l1.map RV.tree = t1 at *
  generalize l2.map RV.tree = t2 at *
  clear h1 h2
  go_enter Try.func50, Try.ntmps50
  go_wp2_with fail
  refine H1.out.mono ?_
  rintro e w1 ⟨v1, rfl, hv1, hb1⟩
  have HV1 := hide (And.intro hv1 hb1)
  clear hv1 hb1
  go_wp2_with fail
  refine (H2.out w1 HV1.out.2).mono ?_
  rintro e w2 ⟨v2, rfl, hv2, hb2⟩
  have Hfin := hide (listCompareP (HV1.out.1.up (fun b hb => hb.2) hb2) (hv2.up (fun b hb => hb.2) (Below.refl _ _)))
  have Hb := hide (HV1.out.2.trans (hb2.mono HV1.out.2.size))
  clear hv2 hb2
  go_wp2_with fail
  refine Hfin.out.mono ?_
  rintro e w3 ⟨rfl, hb3⟩
  have Hb3 := hide (Hb.out.trans (hb3.mono Hb.out.size))
  clear hb3
  go_wp2
  go_ret
  exact ⟨rfl, Hb3.out⟩
theorem implEqualLists_calls (l1 l2 : List RV) (A1 A2 : Option Addr) (c1 c2 : Nat) (w : World) (h1 : RVAt (Old w) w (LRV l1) [.int .i64 5, .int .i64 0, .float .f64 0, .string ⟨#[]⟩, .slice none 0 0, .slice A1 l1.length c1])
    (h2 : RVAt (Old w) w (LRV l2) [.int .i64 5, .int .i64 0, .float .f64 0, .string ⟨#[]⟩, .slice none 0 0, .slice A2 l2.length c2]) :
    Calls Try.prog 51 #[.slice A1 l1.length c1, .slice A2 l2.length c2] w (EqPost (T.eqvL (l1.map RV.tree) (l2.map RV.tree)) w) := by
  have H1 := hide (toList_calls l1 A1 c1 w h1)
  have H2 := hide fun (W : World) (hb : Below w.heap.size w W) => toList_calls l2 A2 c2 W (h2.at_ hb)
  generalize l1.map RV.tree = t1 at *
  generalize l2.map RV.tree = t2 at *
  clear h1 h2
  go_enter Try.func51, Try.ntmps51
  go_wp2_with fail
  refine H1.out.mono ?_
  rintro e w1 ⟨v1, rfl, hv1, hb1⟩
  have HV1 := hide (And.intro hv1 hb1)
  clear hv1 hb1
  go_wp2_with fail
  refine (H2.out w1 HV1.out.2).mono ?_
  rintro e w2 ⟨v2, rfl, hv2, hb2⟩
  have Hfin := hide (listEqualsP (HV1.out.1.up (fun b hb => hb.2) hb2) (hv2.up (fun b hb => hb.2) (Below.refl _ _)))
  have Hb := hide (HV1.out.2.trans (hb2.mono HV1.out.2.size))
  clear hv2 hb2
  go_wp2_with fail
  refine Hfin.out.mono ?_
  rintro e w3 ⟨rfl, hb3⟩
  have Hb3 := hide (Hb.out.trans (hb3.mono Hb.out.size))
  clear hb3
  go_wp2
  go_ret
  exact ⟨rfl, Hb3.out⟩

set_option maxRecDepth 100000 in
set_option maxHeartbeats 1000000 in
theorem orderlyValues_calls (l : List RV) (A : Option Addr) (c : Nat) (w : World) (h : RVAt (Old w) w (LRV l) [.int .i64 5, .int .i64 0, .float .f64 0, .string ⟨#[]⟩, .slice none 0 0, .slice A l.length c]) :
    Calls Try.prog 47 #[.slice A l.length c] w (OrdPost (∀ i r, i < l.length → l[i]? = some r → r.tree.Ok) w) := by
  unfold LRV at h
  cases h with
  | @mk _ _ _ _ _ _ KA LA kc lc xs h1 h2 h3 h4 h5 h6 h7 h8 h9 h10 h11 hK hL hx =>
  have hll : l.length ≤ 8796093022208 := by unfold R47 at h7; omega
  have HL := hide hL
  have HX := hide hx
  clear h1 h2 h3 h4 h5 h6 h7 h8 h9 h10 h11 hK hL hx
  go_enter Try.func47, Try.ntmps47
  go_wp2
  go_loopw [7] (fun c wr => OInv w l (fun r => r.tree.Ok) c wr) (fun c _ => l.length - (intOf c).toNat)
  case atStart => exact ⟨0, rfl, Nat.zero_le _, fun i r hi => by omega, Below.refl _ _⟩
  case round =>
    obtain ⟨k, rfl, hk, hall, hb⟩ := hrel
    by_cases hlt : k < l.length
    · have hgk : l[k]? = some l[k] := List.getElem?_eq_getElem hlt
      have hrk := HX.out k _ hgk
      generalize l[k] = r at hgk hrk
      have hkr := hrk
      generalize hcs : (xs.drop (k * 6)).take 6 = cs at hrk hkr
      cases hrk with
      | @mk kind' n' f' s' keys' l' KA' LA' kc' lc' xs' g1 g2 g3 g4 g5 g6 g7 g8 g9 g10 g11 g12 g13 g14 =>
      clear g1 g2 g3 g4 g5 g6 g7 g8 g9 g10 g11 g12 g13 g14
      obtain ⟨b, o, rfl, hF, k0, k1, k2, k3, k4, k5⟩ := row6_at HL.out hlt hcs
      rw [← (bcell hb).1 _ _ hF] at k0 k1 k2 k3 k4 k5
      have Hkr := hide hkr
      have Hgk := hide hgk
      have Hall := hide hall
      have Hb := hide hb
      have hki0 : (0 : Int) ≤ (k : Int) := Int.natCast_nonneg _
      have hki1 : (k : Int) < (l.length : Int) := by omega
      clear hcs hkr hgk hall hb
      go_wp2_with fail
      refine (orderly_all _ _ _ (Hkr.out.at_ (Hb.out.alloc Hb.out.size _))).mono ?_
      rintro e w1 ⟨bb, rfl, hbb, hb1'⟩
      have hbw := Hb.out.trans (((Below.refl _ _).alloc (Nat.le_refl _) _).trans (hb1'.mono (by simp)) |>.mono Hb.out.size)
      have Hbw := hide hbw
      have Hbb := hide hbb
      clear hbw hbb hb1' k0 k1 k2 k3 k4 k5
      cases bb
      · go_wp2
        go_ret
        exact ⟨false, rfl, (fun h => by cases h), Hbw.out⟩
      · go_wp2
        go_roundw
        case rel => exact ⟨k + 1, by go_num, hlt, OInv.next Hall.out Hgk.out (Hbb.out (by first | exact trivial | rfl)), Hbw.out⟩
        case measure => simp [intOf]; omega
    · have hke : k = l.length := by omega
      subst hke
      have Hfin := hide hall
      clear hall
      go_wp2
      go_ret
      exact ⟨true, rfl, fun _ => Hfin.out, hb⟩

/-- the struct that laws.list makes -/
theorem lawList_calls (A : Option Addr) (n c : Nat) (w : World) : Calls Try.prog 48 #[.slice A n c] w fun e w' => e = .returned (.agg #[.int .i64 5, .int .i64 0, .float .f64 0, .string ⟨#[]⟩, .slice none 0 0, .slice A n c]) ∧ Below w.heap.size w w' := by
  go_enter Try.func48, Try.ntmps48
  go_wp2
  refine bodyPost_ret (results_cell_row rfl _ _ w.heap.size 26 #[.int .i64 5, .int .i64 0, .float .f64 0, .string ⟨#[]⟩, .slice none 0 0, .slice A n c] (0, 0) _ rfl (Bk.new w _ _) Try.underlying26 rfl (by kernel_rfl)) rfl ?_
  exact ⟨rfl, (Below.refl _ _).alloc (Nat.le_refl _) _⟩
theorem lawFields_calls (KA : Option Addr) (kn kc : Nat) (A : Option Addr) (n c : Nat) (w : World) : Calls Try.prog 49 #[.slice KA kn kc, .slice A n c] w fun e w' => e = .returned (.agg #[.int .i64 6, .int .i64 0, .float .f64 0, .string ⟨#[]⟩, .slice KA kn kc, .slice A n c]) ∧ Below w.heap.size w w' := by
  go_enter Try.func49, Try.ntmps49
  go_wp2
  refine bodyPost_ret (results_cell_row rfl _ _ w.heap.size 26 #[.int .i64 6, .int .i64 0, .float .f64 0, .string ⟨#[]⟩, .slice KA kn kc, .slice A n c] (0, 0) _ rfl (Bk.new w _ _) Try.underlying26 rfl (by kernel_rfl)) rfl ?_
  exact ⟨rfl, (Below.refl _ _).alloc (Nat.le_refl _) _⟩

end Go.Proofs.Ytekaainjpddklaa
