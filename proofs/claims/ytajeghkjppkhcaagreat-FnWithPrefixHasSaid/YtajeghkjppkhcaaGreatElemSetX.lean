/-
  Several texts in one: ElemSetTo, ElemSetIt, ElemSetFrom.
-/
import Derived.Test.YtajeghkjppkhcaaGreatElemSetM
import Derived.Test.YtajeghkjppkhcaaGreatPathMC
import Derived.Test.YtajeghkjppkhcaaGreatFromElem
set_option linter.unusedVariables false
set_option linter.unusedSimpArgs false
/-!
  impl.toElemSet; PathElementSet.Size.
-/

namespace Go.Proofs.YtajeghkjppkhcaaGreat
open Go.RowKit
attribute [local go_sem] run_store_float

theorem ESet.mono {F G : Nat → Prop} {w : World} {g : Nat} {l : List E} {s : Value} {xs : List Value} (h : ESet F w g l s xs) (k : ∀ b, F b → G b) : ESet G w g l s xs := ⟨h.bk, h.own, h.at_.mono fun _ _ h => h.mono k, h.sep⟩
theorem ESet.below {F : Nat → Prop} {w w' : World} {g : Nat} {l : List E} {s : Value} {xs : List Value} (h : ESet F w g l s xs) (hF : ∀ b, F b → b < w.heap.size) (hb : Below w.heap.size w w') : ESet F w' g l s xs :=
  ⟨h.bk.below hb h.bk.lt, ownsRow_below h.own hb (Nat.le_refl _), h.at_.mono fun _ _ h => h.keeps (Keeps.below hb hF), h.sep⟩

end Go.Proofs.YtajeghkjppkhcaaGreat

/-!
  PathElementSet.Iterate, generic in the closure.
-/

namespace Go.Proofs.YtajeghkjppkhcaaGreat
open Go.RowKit
attribute [local go_sem] run_store_float

set_option maxRecDepth 100000 in
set_option maxHeartbeats 4000000 in
/-- F: where the row lies; J: what the closure has done for the steps up to now -/
theorem esIterate_calls {F : Nat → Prop} {l : List E} {A : Option Addr} {c g o : Nat} {w : World} {xs : List Value} {Q : E → List Value → Prop} (m0 : w.cell? ⟨g, o, none⟩ = some (.slice A l.length c)) (hl47 : l.length * 32 ≤ R47) (hr : Row F w 4 A l.length xs) (hx : Cells 4 Q l xs) (hQl : ∀ a cs, Q a cs → ∃ p0 p1 p2 p3 : Option Addr, cs = [.pointer p0, .pointer p1, .pointer p2, .pointer p3])
    (f : FuncId) (cap : Array Value) (hcf : ∀ (args : Array Value) (W : World), (callFunc f args).run Tryz.prog W = .ok (.enter f args) W) (J : List E → World → Prop) (hJ0 : J [] w) (hJk : ∀ vis W, J vis W → Keeps F w W) (hJa : ∀ vis W o, J vis W → J vis (W.alloc o))
    (hstep : ∀ (k : Nat) a cs W, l[k]? = some a → Q a cs → J (l.take k) W → Calls Tryz.prog f (#[.agg cs.toArray] ++ cap) W fun e W' => e = .returned (.tuple #[]) ∧ J (l.take (k + 1)) W') :
    Calls Tryz.prog 97 #[.pointer (some ⟨g, o, none⟩), .func (.func f) #[] cap] w fun e w' => e = .returned (.tuple #[]) ∧ J l w' := by
  have hl47' : l.length * 32 ≤ 140737488351232 := hl47
  have H7 := hide (And.intro hr hx)
  have HJ := hide (And.intro hJ0 (And.intro hJk (And.intro hJa (And.intro hstep hQl))))
  clear hl47 hr hx hQl hJ0 hJk hJa hstep
  go_enter Tryz.func97, Tryz.ntmps97
  go_wp2_with fail
  go_loopw [11] (fun s11 W => ∃ k : Nat, s11 = .int .i64 (k : Int) ∧ k ≤ l.length ∧ J (l.take k) W) (fun s _ => l.length - (intOf s).toNat)
  case atStart => exact ⟨0, rfl, Nat.zero_le _, by simpa using HJ.out.1⟩
  case round =>
    obtain ⟨k, rfl, hk, hJ⟩ := hrel
    by_cases hlt : k < l.length
    · have hki0 : (0 : Int) ≤ (k : Int) := Int.natCast_nonneg _
      have hki1 : (k : Int) < (l.length : Int) := by omega
      have hx := H7.out.2.at_ hlt
      have hlk : l[k]? = some l[k] := List.getElem?_eq_getElem hlt
      generalize l[k] = a at *
      generalize hcs : (xs.drop (k * 4)).take 4 = fcs at hx
      obtain ⟨c0, c1, c2, c3, rfl⟩ := HJ.out.2.2.2.2 _ _ hx
      obtain ⟨rb, ro, rfl, hF, hc⟩ := rown_at H7.out.1 hlt hcs
      have ec : ∀ o v, w.cell? ⟨rb, o, none⟩ = some v → wr.cell? ⟨rb, o, none⟩ = some v := fun o v h => by
        rw [← h]
        exact World.cell?_of_block (HJ.out.2.1 _ _ hJ rb hF)
      have q0 := ec _ _ (hc 0 _ rfl)
      have q1 := ec _ _ (hc 1 _ rfl)
      have q2 := ec _ _ (hc 2 _ rfl)
      have q3 := ec _ _ (hc 3 _ rfl)
      rw [Nat.add_zero] at q0
      have HS := hide (HJ.out.2.2.2.1 k a _ (wr.alloc (.cells #[.pointer c0, .pointer c1, .pointer c2, .pointer c3] 96)) hlk hx (HJ.out.2.2.1 _ _ _ hJ))
      clear hx hlk hcs hc ec hF hJ
      go_wp2_with fail
      refine HS.out.mono ?_
      rintro e w1 ⟨rfl, hJ1⟩
      have H1 := hide hJ1
      clear hJ1 q0 q1 q2 q3 HS
      go_wp2_with fail
      exact ⟨⟨k + 1, by go_num, by omega, H1.out⟩, by simp [intOf]; omega⟩
    · have hke : k = l.length := by omega
      subst hke
      have hki1 : ¬ ((l.length : Nat) : Int) < (l.length : Int) := by omega
      rw [List.take_of_length_le (Nat.le_refl _)] at hJ
      have H3 := hide hJ
      clear hJ hlt
      go_wp2
      go_returns
      exact ⟨rfl, H3.out⟩

end Go.Proofs.YtajeghkjppkhcaaGreat

/-!
  impl.fromElemSet, impl.ElemSet.
-/

namespace Go.Proofs.YtajeghkjppkhcaaGreat
open Go.RowKit
attribute [local go_sem] run_store_float

theorem elem_info : (Tryz.prog.info? 33).map (fun i => (i.zero, i.size, i.bytes)) = some (some (.agg #[.int .i64 0, .string ⟨#[]⟩, .slice none 0 0, .slice none 0 0, .int .i64 0, .int .i64 0, .float .f64 0, .string ⟨#[]⟩, .slice none 0 0, .slice none 0 0, .int .i64 0]), 11, 168) := by kernel_rfl

/-- what the closure has laid into its variable up to now -/
def OutE (w0 : World) (vis : List E) (W : World) : Prop :=
  ∃ (s : Value) (xs : List Value), Bk W w0.heap.size 22 #[s] ∧ W.ownsRow (w0.heap.size + 1) 33 11 s vis.length xs ∧ Cells 11 (ElemAt (FrX (w0.heap.size + 1) W s) W) (vis.map E.toREl) xs ∧ Below w0.heap.size w0 W
theorem OutE.below {w0 W W' : World} {vis : List E} (h : OutE w0 vis W) (hb : Below W.heap.size W W') : OutE w0 vis W' := by
  obtain ⟨s, xs, h1, h2, h3, h4⟩ := h
  exact ⟨s, xs, h1.below hb h1.lt, ownsRow_below h2 hb (Nat.le_refl _), h3.mono fun _ _ h => (h.keeps (Keeps.below hb fun b hb => hb.2.1)).mono fun b hb' => ⟨hb'.1, Nat.lt_of_lt_of_le hb'.2.1 hb.size, hb'.2.2⟩, h4.trans (hb.mono h4.size)⟩

/-- steps handed back as structs; their memory is new -/
def GivesEls (rs : List REl) (w : World) (en : Ending) (w' : World) : Prop := ∃ A c, en = .returned (.slice A rs.length c) ∧ PathAt (Fr w.heap.size w') w' rs A c ∧ Below w.heap.size w w'

end Go.Proofs.YtajeghkjppkhcaaGreat
