/-
  Several texts in one: PathOk, LawSetWithPrefix.
-/
import Derived.Test.YtajeghkjppkhcaaGreatPathMC
import Derived.Test.YtajeghkjppkhcaaGreatElemOO
import Derived.Test.YtajeghkjppkhcaaGreatBothB
set_option linter.unusedVariables false
set_option linter.unusedSimpArgs false
/-!
  spec.OrderlyPaths, laws.tame.
-/

namespace Go.Proofs.YtajeghkjppkhcaaGreat
open Go.RowKit
attribute [local go_sem] run_store_float

/-- at the head of a round over paths, or over the steps of one -/
def OPInv {α : Type} (w : World) (ls : List α) (ok : α → Prop) (s : Value) (W : World) : Prop := ∃ k : Nat, s = .int .i64 (k : Int) ∧ k ≤ ls.length ∧ (∀ (i : Nat) l, i < k → ls[i]? = some l → ok l) ∧ Below w.heap.size w W

set_option maxRecDepth 100000 in
set_option maxHeartbeats 4000000 in
theorem orderlyPaths_calls {ls : List (List REl)} {A : Option Addr} {c : Nat} {w : World} (h : PathsAt (Old w) w ls A c) :
    Calls Tryz.prog 25 #[.slice A ls.length c] w (OrdPost (∀ l ∈ ls, POk (pel l)) w) := by
  obtain ⟨h1, h2, h3, xs, h4, h5⟩ := h
  have h1' : ls.length * 24 ≤ 140737488351232 := h1
  have H7 := hide (And.intro h4 h5)
  clear h1 h4 h5
  go_enter Tryz.func25, Tryz.ntmps25
  go_wp2_with fail
  go_loopw [9] (fun s W => OPInv w ls (fun l => POk (pel l)) s W) (fun s _ => ls.length - (intOf s).toNat)
  case atStart => exact ⟨0, rfl, Nat.zero_le _, fun i l h => by omega, Below.refl _ _⟩
  case round =>
    obtain ⟨k, rfl, hk, hall, hb⟩ := hrel
    by_cases hlt : k < ls.length
    · have hki0 : (0 : Int) ≤ (k : Int) := Int.natCast_nonneg _
      have hki1 : (k : Int) < (ls.length : Int) := by omega
      have hx := H7.out.2.at_ hlt
      have hxk : ls[k]? = some ls[k] := List.getElem?_eq_getElem hlt
      generalize ls[k] = l at *
      obtain ⟨B, d, ecs, hl⟩ := hx
      obtain ⟨rb, ro, rfl, hF, hc⟩ := rown_at H7.out.1 hlt ecs
      have q0 := ((bcell hb).1 _ _ hF).trans (hc 0 _ rfl)
      rw [Nat.mul_one, Nat.add_zero] at q0
      have hrb : rb < w.heap.size := hF
      obtain ⟨g1, g2, g3, ys, g4, g5⟩ := hl
      have g1' : l.length * 168 ≤ 140737488351232 := g1
      have HL := hide (And.intro g4 g5)
      have Hb := hide (And.intro hb (And.intro hall hxk))
      clear hb hall hxk hc hF ecs g1 g4 g5
      go_wp2_with fail
      go_loopw [15] (fun s W => OPInv w l (fun r => r.elem.Ok) s W) (fun s _ => l.length - (intOf s).toNat)
      case atStart => exact ⟨0, rfl, Nat.zero_le _, fun i l h => by omega, Hb.out.1⟩
      case round =>
        obtain ⟨j, rfl, hj, hal, hb⟩ := hrel
        clear q0
        by_cases hltj : j < l.length
        · have hji0 : (0 : Int) ≤ (j : Int) := Int.natCast_nonneg _
          have hji1 : (j : Int) < (l.length : Int) := by omega
          have hx := HL.out.2.at_ hltj
          have hxj : l[j]? = some l[j] := List.getElem?_eq_getElem hltj
          generalize l[j] = fx at *
          generalize hcs : (ys.drop (j * 11)).take 11 = fcs at hx
          obtain ⟨a0, a1, a2, a3, a4, a5, a6, a7, a8, a9, aa, ab, ac, ad, ae, af, ag, ah, ai, rfl⟩ := hx.form
          obtain ⟨sb, so, rfl, hG, hd⟩ := rown_at HL.out.1 hltj hcs
          have ec := (bcell hb).1
          have m0 := (ec _ _ hG).trans (hd 0 _ rfl)
          have m1 := (ec _ _ hG).trans (hd 1 _ rfl)
          have m2 := (ec _ _ hG).trans (hd 2 _ rfl)
          have m3 := (ec _ _ hG).trans (hd 3 _ rfl)
          have m4 := (ec _ _ hG).trans (hd 4 _ rfl)
          have m5 := (ec _ _ hG).trans (hd 5 _ rfl)
          have m6 := (ec _ _ hG).trans (hd 6 _ rfl)
          have m7 := (ec _ _ hG).trans (hd 7 _ rfl)
          have m8 := (ec _ _ hG).trans (hd 8 _ rfl)
          have m9 := (ec _ _ hG).trans (hd 9 _ rfl)
          have m10 := (ec _ _ hG).trans (hd 10 _ rfl)
          rw [Nat.add_zero] at m0
          have hsb : sb < w.heap.size := hG
          have HO := hide fun (W : World) (hb : Below w.heap.size w W) => orderlyElem_calls fx W _ (hx.at_ hb)
          have Hb2 := hide (And.intro hb (And.intro hal hxj))
          clear hb hal hxj hx hcs hd ec hG
          go_wp2_with fail
          have hbA : Below w.heap.size w (wr.alloc (.cells #[.int .i64 a0, .string a1, .slice a2 a3 a4, .slice a5 a6 a7, .int .i64 a8, .int .i64 a9, .float .f64 aa, .string ab, .slice ac ad ae, .slice af ag ah, .int .i64 ai] 33)) := Hb2.out.1.alloc Hb2.out.1.size _
          generalize World.alloc wr _ = W2 at hbA ⊢
          refine (HO.out W2 hbA).mono ?_
          rintro e w2 ⟨b, rfl, hbo, hb2⟩
          have H2 := hide (And.intro (hbA.trans (hb2.mono hbA.size)) hbo)
          clear hbA hb2 hbo m0 m1 m2 m3 m4 m5 m6 m7 m8 m9 m10 HO
          cases b
          · go_wp2
            go_ret
            exact ⟨false, rfl, (fun h => by cases h), H2.out.1⟩
          · go_wp2_with fail
            refine ⟨⟨j + 1, by go_num, by omega, fun i y hi hy => ?_, H2.out.1⟩, by simp [intOf]; omega⟩
            by_cases hij : i = j
            · subst hij
              have := Hb2.out.2.2
              rw [hy] at this
              cases this
              exact H2.out.2 (by first | trivial | rfl)
            · exact Hb2.out.2.1 i y (by omega) hy
        · have hje : ¬ (j : Int) < (l.length : Int) := by omega
          have hok : POk (pel l) := fun e he => by
            obtain ⟨r, hr, rfl⟩ := List.mem_map.1 he
            obtain ⟨i, hi, e⟩ := List.getElem_of_mem hr
            exact hal i r (by omega) (by rw [← e]; exact List.getElem?_eq_getElem hi)
          have H2 := hide (And.intro hb hok)
          clear hb hal hok
          go_wp2_with fail
          refine ⟨⟨k + 1, by go_num, by omega, fun i y hi hy => ?_, H2.out.1⟩, by simp [intOf]; omega⟩
          by_cases hik : i = k
          · subst hik
            have := Hb.out.2.2
            rw [hy] at this
            cases this
            exact H2.out.2
          · exact Hb.out.2.1 i y (by omega) hy
    · have hki1 : ¬ ((k : Nat) : Int) < (ls.length : Int) := by omega
      have hok : ∀ l ∈ ls, POk (pel l) := fun l hl => by
        obtain ⟨i, hi, e⟩ := List.getElem_of_mem hl
        exact hall i l (by omega) (by rw [← e]; exact List.getElem?_eq_getElem hi)
      have H2 := hide (And.intro hb hok)
      clear hb hall hok
      go_wp2
      go_ret
      exact ⟨true, rfl, fun _ => H2.out.2, H2.out.1⟩

end Go.Proofs.YtajeghkjppkhcaaGreat

/-!
  The law FnSetWithPrefix, of every list of paths and every step: it answers true and leaves what stood. No condition. Printed by genlawwp.py.
-/

namespace Go.Proofs.YtajeghkjppkhcaaGreat
open Go.RowKit
attribute [local go_sem] run_store_float

theorem pels_back {ps : List (List E)} (h : ∀ p ∈ ps, PWS p) : pels (ps.map (List.map E.toREl)) = ps := pelsP_back h
theorem pels_all {ls : List (List REl)} {P : List E → Prop} (h : ∀ l ∈ ls, P (pel l)) : ∀ p ∈ pels ls, P p := fun p hp => by
  obtain ⟨l, hl, rfl⟩ := List.mem_map.1 hp
  exact h l hl
theorem sub_pws {ls : List (List REl)} {e : E} : ∀ p ∈ (subK e (setP (pels ls))).paths, PWS p := paths_all (subK_all (setP_all fun p hp => pels_pws hp))
end Go.Proofs.YtajeghkjppkhcaaGreat
