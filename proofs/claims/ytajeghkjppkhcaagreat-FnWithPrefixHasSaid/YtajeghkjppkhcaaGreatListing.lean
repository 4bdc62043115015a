/-
  impl.toList, impl.CompareLists, impl.EqualLists; spec.OrderlyValues; laws.list, laws.fields.
-/
import Derived.Test.YtajeghkjppkhcaaGreatMapsA
set_option linter.unusedVariables false
set_option linter.unusedSimpArgs false
namespace Go.Proofs.YtajeghkjppkhcaaGreat
open Go.RowKit
attribute [local go_sem] run_store_float run_load_k

/-- an interface value that is the package's list of these items -/
def ListV (F : Nat → Prop) (w : World) (l : List T) (v : Value) : Prop := ∃ A c, v = .iface 362 (.slice A l.length c) ∧ ListAt F w A l
theorem ListV.up {F : Nat → Prop} {w W : World} {l : List T} {v : Value} (h : ListV F w l v) (hF : ∀ b, F b → b < w.heap.size) (hb : Below w.heap.size w W) : ListV (Old W) W l v := by
  obtain ⟨A, c, rfl, h⟩ := h
  exact ⟨A, c, rfl, h.up hF hb⟩
/-- a list of values, as the struct of kind list -/
def LRV (l : List RV) : RV := .mk 5 0 0 ⟨#[]⟩ [] l
theorem LRV.tree (l : List RV) : (LRV l).tree = .list (l.map RV.tree) := by
  rw [LRV, RV.tree, treeL_eq]
  simp

set_option maxRecDepth 100000 in
set_option maxHeartbeats 1000000 in
theorem orderlyValues_calls (l : List RV) (A : Option Addr) (c : Nat) (w : World) (h : RVAt (Old w) w (LRV l) [.int .i64 5, .int .i64 0, .float .f64 0, .string ⟨#[]⟩, .slice none 0 0, .slice A l.length c]) :
    Calls Tryz.prog 74 #[.slice A l.length c] w (OrdPost (∀ i r, i < l.length → l[i]? = some r → r.tree.Ok) w) := by
  unfold LRV at h
  cases h with
  | @mk _ _ _ _ _ _ KA LA kc lc xs h1 h2 h3 h4 h5 h6 h7 h8 h9 h10 h11 hK hL hx =>
  have hll : l.length ≤ 8796093022208 := by unfold R47 at h7; omega
  have HL := hide hL
  have HX := hide hx
  clear h1 h2 h3 h4 h5 h6 h7 h8 h9 h10 h11 hK hL hx
  go_enter Tryz.func74, Tryz.ntmps74
  go_wp2
  go_loopw [7] (fun c wr => OInv w l (fun r => r.tree.Ok) c wr) (fun c _ => l.length - (intOf c).toNat)
  case atStart => exact ⟨0, rfl, Nat.zero_le _, fun i r hi => by omega, Below.refl _ _⟩
  case round =>
    obtain ⟨k, rfl, hk, hall, hb⟩ := hrel
    by_cases hlt : k < l.length
    · have hgk : l[k]? = some l[k] := List.getElem?_eq_getElem hlt
      have hrk := HX.out k _ hgk
      generalize l[k] = r at hgk hrk
      have hkr := hrk
      generalize hcs : (xs.drop (k * 6)).take 6 = cs at hrk hkr
      cases hrk with
      | @mk kind' n' f' s' keys' l' KA' LA' kc' lc' xs' g1 g2 g3 g4 g5 g6 g7 g8 g9 g10 g11 g12 g13 g14 =>
      clear g1 g2 g3 g4 g5 g6 g7 g8 g9 g10 g11 g12 g13 g14
      obtain ⟨b, o, rfl, hF, k0, k1, k2, k3, k4, k5⟩ := row6_at HL.out hlt hcs
      rw [← (bcell hb).1 _ _ hF] at k0 k1 k2 k3 k4 k5
      have Hkr := hide hkr
      have Hgk := hide hgk
      have Hall := hide hall
      have Hb := hide hb
      have hki0 : (0 : Int) ≤ (k : Int) := Int.natCast_nonneg _
      have hki1 : (k : Int) < (l.length : Int) := by omega
      clear hcs hkr hgk hall hb
      go_wp2_with fail
      refine (orderly_all _ _ _ (Hkr.out.at_ (Hb.out.alloc Hb.out.size _))).mono ?_
      rintro e w1 ⟨bb, rfl, hbb, hb1'⟩
      have hbw := Hb.out.trans (((Below.refl _ _).alloc (Nat.le_refl _) _).trans (hb1'.mono (by simp)) |>.mono Hb.out.size)
      have Hbw := hide hbw
      have Hbb := hide hbb
      clear hbw hbb hb1' k0 k1 k2 k3 k4 k5
      cases bb
      · go_wp2
        go_ret
        exact ⟨false, rfl, (fun h => by cases h), Hbw.out⟩
      · go_wp2
        go_roundw
        case rel => exact ⟨k + 1, by go_num, hlt, OInv.next Hall.out Hgk.out (Hbb.out (by first | exact trivial | rfl)), Hbw.out⟩
        case measure => simp [intOf]; omega
    · have hke : k = l.length := by omega
      subst hke
      have Hfin := hide hall
      clear hall
      go_wp2
      go_ret
      exact ⟨true, rfl, fun _ => Hfin.out, hb⟩

end Go.Proofs.YtajeghkjppkhcaaGreat
