/-
  laws.floatFree: it answers.
-/
import Derived.Test.YtekaainjpddklaaLaw
set_option linter.unusedVariables false
set_option linter.unusedSimpArgs false
namespace Go.Proofs.Ytekaainjpddklaa
open Go.RowKit
attribute [local go_sem] run_store_float

def AnsPost (w : World) (e : Ending) (w' : World) : Prop := (∃ b : Bool, e = .returned (.bool b)) ∧ Below w.heap.size w w'
def FreeOK (r : RV) : Prop := ∀ (w : World) (cs : List Value), RVAt (Old w) w r cs → Calls Try.prog 37 #[.agg cs.toArray] w (AnsPost w)

set_option maxRecDepth 100000 in
set_option maxHeartbeats 1000000 in
theorem free_all (r : RV) : FreeOK r := by
  induction hrk : r.rank using Nat.strongRecOn generalizing r with
  | ind m ih =>
  subst hrk
  intro w cs hrv
  cases hrv with
  | @mk kind n f s keys l KA LA kc lc xs h1 h2 h3 h4 h5 h6 h7 h8 h9 h10 h11 hKrow hLrow hx =>
  have hll : l.length ≤ 8796093022208 := by unfold R47 at h7; omega
  have Hih : ∀ r ∈ l, FreeOK r := fun r hr => ih _ (RV.rank_lt hr) r rfl
  have HIH := hide Hih
  have HL := hide hLrow
  have HX := hide hx
  clear ih Hih h1 h2 h3 h4 h5 h6 h7 h8 h9 h10 h11 hKrow hLrow hx
  have hb1 : ∀ o : Obj, Below w.heap.size w (w.alloc o) := fun o => (Below.refl _ _).alloc (Nat.le_refl _) _
  by_cases k3 : kind = 3
  · subst k3
    go_enter Try.func37, Try.ntmps37
    go_wp2
    go_ret
    exact ⟨⟨_, rfl⟩, hb1 _⟩
  · have k3b : (kind == 3) = false := by simpa using k3
    go_enter Try.func37, Try.ntmps37
    go_wp2
    go_loopw [11] (fun c wr => OInv w l (fun _ => True) c wr) (fun c _ => l.length - (intOf c).toNat)
    case atStart => exact ⟨0, rfl, Nat.zero_le _, fun i r hi => by omega, hb1 _⟩
    case round =>
      obtain ⟨k, rfl, hk, _, hb⟩ := hrel
      by_cases hlt : k < l.length
      · have hgk : l[k]? = some l[k] := List.getElem?_eq_getElem hlt
        have hrk := HX.out k _ hgk
        have hih := HIH.out l[k] (List.getElem_mem hlt)
        generalize l[k] = r at hgk hrk hih
        have hkr := hrk
        generalize hcs : (xs.drop (k * 6)).take 6 = cs at hrk hkr
        cases hrk with
        | @mk kind' n' f' s' keys' l' KA' LA' kc' lc' xs' g1 g2 g3 g4 g5 g6 g7 g8 g9 g10 g11 g12 g13 g14 =>
        clear g1 g2 g3 g4 g5 g6 g7 g8 g9 g10 g11 g12 g13 g14
        obtain ⟨b, o, rfl, hF, k0, k1, k2, k3', k4, k5⟩ := row6_at HL.out hlt hcs
        rw [← (bcell hb).1 _ _ hF] at k0 k1 k2 k3' k4 k5
        have Hkr := hide hkr
        have Hih := hide hih
        have Hb := hide hb
        have hki0 : (0 : Int) ≤ (k : Int) := Int.natCast_nonneg _
        have hki1 : (k : Int) < (l.length : Int) := by omega
        clear hcs hkr hih hb hgk
        go_wp2_with fail
        refine (Hih.out _ _ (Hkr.out.at_ (Hb.out.alloc Hb.out.size _))).mono ?_
        rintro e w1 ⟨⟨bb, rfl⟩, hb1'⟩
        have hbw := Hb.out.trans (((Below.refl _ _).alloc (Nat.le_refl _) _).trans (hb1'.mono (by simp)) |>.mono Hb.out.size)
        have Hbw := hide hbw
        clear hbw hb1' k0 k1 k2 k3' k4 k5
        cases bb
        · go_wp2
          go_ret
          exact ⟨⟨false, rfl⟩, Hbw.out⟩
        · go_wp2
          go_roundw
          case rel => exact ⟨k + 1, by go_num, hlt, fun _ _ _ _ => trivial, Hbw.out⟩
          case measure => simp [intOf]; omega
      · have hke : k = l.length := by omega
        subst hke
        go_wp2
        go_ret
        exact ⟨⟨true, rfl⟩, hb⟩

end Go.Proofs.Ytekaainjpddklaa
