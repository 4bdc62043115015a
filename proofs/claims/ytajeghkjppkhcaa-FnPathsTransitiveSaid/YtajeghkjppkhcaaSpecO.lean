/-
  The reference's order of values: spec.comparePlain is T.cmp over the plain forms of trees.
-/
import Derived.Test.YtajeghkjppkhcaaLaw
set_option linter.unusedVariables false
set_option linter.unusedSimpArgs false
namespace Go.Proofs.Ytajeghkjppkhcaa
open Go.RowKit
attribute [local go_sem] run_store_float

theorem specInts_calls (a b : Int) (w : World) : Calls Try.prog 35 #[.int .i64 a, .int .i64 b] w fun e w' => e = .returned (.int .i64 (cmpI a b)) ∧ w = w' := by
  by_cases h1 : a < b
  · have e : cmpI a b = -1 := by unfold cmpI; rw [if_pos h1]
    rw [e]
    go_enter Try.func35, Try.ntmps35
    go_wp2
    go_ret
    exact ⟨rfl, rfl⟩
  · by_cases h2 : b < a
    · have e : cmpI a b = 1 := by unfold cmpI; rw [if_neg h1, if_pos h2]
      rw [e]
      go_enter Try.func35, Try.ntmps35
      go_wp2
      go_ret
      exact ⟨rfl, rfl⟩
    · have e : cmpI a b = 0 := by unfold cmpI; rw [if_neg h1, if_neg h2]
      rw [e]
      go_enter Try.func35, Try.ntmps35
      go_wp2
      go_ret
      exact ⟨rfl, rfl⟩
theorem specInts_same (a b : Int) (w : World) : Calls Try.prog 35 #[.int .i64 a, .int .i64 b] w fun e w' => e = .returned (.int .i64 (cmpI a b)) ∧ w' = w := (specInts_calls a b w).mono fun _ _ h => ⟨h.1, h.2.symm⟩
/-- a tree's struct -/
def TAt (w : World) (t : T) (cs : List Value) : Prop := RVAt (Old w) w t.toRV cs
theorem TAt.at_ {w W : World} {t : T} {cs : List Value} (h : TAt w t cs) (hb : Below w.heap.size w W) : TAt W t cs := RVAt.at_ h hb

/-- strings byte by byte -/
theorem cmpB_drop {a b : List UInt8} {k : Nat} (h1 : k < a.length) (h2 : k < b.length) : Lib.compareBytes (a.drop k) (b.drop k) = if a[k] = b[k] then Lib.compareBytes (a.drop (k + 1)) (b.drop (k + 1)) else cmpI (a[k].toNat : Int) (b[k].toNat : Int) := by
  rw [List.drop_eq_getElem_cons h1, List.drop_eq_getElem_cons h2, Lib.compareBytes]
  generalize a[k] = x
  generalize b[k] = y
  unfold cmpI
  by_cases e : x = y
  · subst e
    rw [if_neg (by simp), if_neg (by simp), if_pos rfl]
  · rw [if_neg e]
    have e1 : x < y ↔ (x.toNat : Int) < (y.toNat : Int) := by rw [UInt8.lt_iff_toNat_lt]; omega
    have e2 : y < x ↔ (y.toNat : Int) < (x.toNat : Int) := by rw [UInt8.lt_iff_toNat_lt]; omega
    simp only [e1, e2]
    have hne : x.toNat ≠ y.toNat := fun h => e (UInt8.toNat_inj.1 h)
    by_cases h : (x.toNat : Int) < (y.toNat : Int)
    · rw [if_pos h, if_pos h]
    · rw [if_neg h, if_neg h, if_pos (by omega), if_pos (by omega)]
theorem cmpB_end {a b : List UInt8} {k : Nat} (hk1 : k ≤ a.length) (hk2 : k ≤ b.length) (h : a.length ≤ k ∨ b.length ≤ k) : Lib.compareBytes (a.drop k) (b.drop k) = cmpI (a.length : Int) (b.length : Int) := by
  by_cases h1 : k < a.length
  · rw [List.drop_eq_getElem_cons h1, List.drop_of_length_le (show b.length ≤ k by omega), Lib.compareBytes]
    unfold cmpI
    rw [if_neg (by omega), if_pos (by omega)]
  · rw [List.drop_of_length_le (show a.length ≤ k by omega)]
    by_cases h2 : k < b.length
    · rw [List.drop_eq_getElem_cons h2, Lib.compareBytes]
      unfold cmpI
      rw [if_pos (by omega)]
    · rw [List.drop_of_length_le (show b.length ≤ k by omega), Lib.compareBytes]
      unfold cmpI
      rw [if_neg (by omega), if_neg (by omega)]

def StrInv (a b : ByteArray) (c : Int) (w : World) (s : Value) (wr : World) : Prop := ∃ k : Nat, s = .int .i64 (k : Int) ∧ k ≤ a.size ∧ k ≤ b.size ∧ Lib.compareBytes (a.data.toList.drop k) (b.data.toList.drop k) = c ∧ Below w.heap.size w wr
set_option maxRecDepth 100000 in
theorem specStrings_calls (a b : ByteArray) (ha : a.size ≤ R47) (hb : b.size ≤ R47) (w : World) : Calls Try.prog 28 #[.string a, .string b] w fun e w' => e = .returned (.int .i64 (cmpS a b)) ∧ Below w.heap.size w w' := by
  unfold R47 at ha hb
  obtain ⟨c, hcv⟩ : ∃ c, cmpS a b = c := ⟨_, rfl⟩
  rw [hcv]
  unfold cmpS at hcv
  have Hc := hide hcv
  clear hcv
  go_enter Try.func28, Try.ntmps28
  go_wp2
  go_loopw [5] (fun s wr => StrInv a b c w s wr) (fun s _ => a.size - (intOf s).toNat)
  case atStart => exact ⟨0, rfl, Nat.zero_le _, Nat.zero_le _, by simpa using Hc.out, Below.refl _ _⟩
  case round =>
    obtain ⟨k, rfl, hk1, hk2, hcmp, hb'⟩ := hrel
    have Hcmp := hide hcmp
    have Hb := hide hb'
    clear hcmp hb'
    by_cases h1 : k < a.size
    · by_cases h2 : k < b.size
      · have i1 : (k : Int) < (a.size : Int) := by omega
        have i2 : (k : Int) < (b.size : Int) := by omega
        have i0 : (0 : Int) ≤ (k : Int) := by omega
        have hcs := cmpB_drop (a := a.data.toList) (b := b.data.toList) (k := k) (by simpa using h1) (by simpa using h2)
        have ea : a.data.toList[k]'(by simpa using h1) = a[k] := by simp [ByteArray.getElem_eq_getElem_data]
        have eb : b.data.toList[k]'(by simpa using h2) = b[k] := by simp [ByteArray.getElem_eq_getElem_data]
        rw [ea, eb] at hcs
        have Hcs := hide hcs
        clear hcs ea eb
        by_cases hxy : a[k] = b[k]
        · have hne : ((a[k].toNat : Int) != (b[k].toNat : Int)) = false := by rw [hxy]; simp
          go_wp2_with fail
          go_quiet (fail)
          go_wp2_with fail
          have hcv := Hcs.out
          rw [if_pos hxy] at hcv
          exact ⟨⟨k + 1, by go_num, h1, h2, hcv.symm.trans Hcmp.out, below_drewN Hb.out _⟩, by simp [intOf]; omega⟩
        · have hne : ((a[k].toNat : Int) != (b[k].toNat : Int)) = true := by
            rw [bne_iff_ne]
            intro h
            exact hxy (UInt8.toNat_inj.1 (by omega))
          go_wp2_with fail
          go_quiet (fail)
          go_wp2_with fail
          have hx8 : a[k].toNat < 256 := UInt8.toNat_lt _
          have hy8 : b[k].toNat < 256 := UInt8.toNat_lt _
          have hw1 : IntKind.i64.wrap (a[k].toNat : Int) = (a[k].toNat : Int) := IntWalk.i64_in _ (by omega)
          have hw2 : IntKind.i64.wrap (b[k].toNat : Int) = (b[k].toNat : Int) := IntWalk.i64_in _ (by omega)
          have hbw := below_drewN Hb.out
          generalize hW2 : wr.drewN _ = W2
          have hb2 : Below w.heap.size w W2 := by rw [← hW2]; exact hbw _
          clear hW2 hbw
          go_quiet ((go_at_call 35; exact Calls.quiet_of_same (specInts_same _ _ _)))
          go_wp2
          go_ret
          have hcv := Hcs.out
          rw [if_neg hxy, Hcmp.out] at hcv
          subst hcv
          exact ⟨rfl, below_drewN hb2 _⟩
      · go_wp2_with fail
        refine (specInts_calls _ _ _).mono ?_
        rintro e w' ⟨rfl, rfl⟩
        go_wp2
        go_ret
        have hcv := Hcmp.out
        rw [cmpB_end (by simpa using hk1) (by simpa using hk2) (.inr (by simp; omega)), show a.data.toList.length = a.size by simp, show b.data.toList.length = b.size by simp] at hcv
        subst hcv
        exact ⟨rfl, Hb.out⟩
    · go_wp2_with fail
      refine (specInts_calls _ _ _).mono ?_
      rintro e w' ⟨rfl, rfl⟩
      go_wp2
      go_ret
      have hcv := Hcmp.out
      rw [cmpB_end (by simpa using hk1) (by simpa using hk2) (.inl (by simp; omega)), show a.data.toList.length = a.size by simp, show b.data.toList.length = b.size by simp] at hcv
      subst hcv
      exact ⟨rfl, Hb.out⟩

/-- a row of trees' structs -/
def TsAt (w : World) (A : Option Addr) (l : List T) : Prop := ∃ xs, Row (Old w) w 6 A l.length xs ∧ ∀ (i : Nat) t, l[i]? = some t → TAt w t ((xs.drop (i * 6)).take 6)
theorem TsAt.at_ {w W : World} {A : Option Addr} {l : List T} (h : TsAt w A l) (hb : Below w.heap.size w W) : TsAt W A l := by
  obtain ⟨xs, h1, h2⟩ := h
  exact ⟨xs, (h1.keeps (Keeps.below hb fun _ h => h)).mono fun _ h => Nat.lt_of_lt_of_le h hb.size, fun i t ht => (h2 i t ht).at_ hb⟩
/-- an element of such a row -/
theorem TsAt.elem {w : World} {A : Option Addr} {l : List T} (h : TsAt w A l) {k : Nat} (hk : k < l.length) : ∃ b o c0 c1 c2 c3 c4 c5, A = some ⟨b, o, none⟩ ∧ b < w.heap.size ∧ TAt w l[k] [c0, c1, c2, c3, c4, c5] ∧
    w.cell? ⟨b, o + k * 6, none⟩ = some c0 ∧ w.cell? ⟨b, o + k * 6 + 1, none⟩ = some c1 ∧ w.cell? ⟨b, o + k * 6 + 2, none⟩ = some c2 ∧ w.cell? ⟨b, o + k * 6 + 3, none⟩ = some c3 ∧ w.cell? ⟨b, o + k * 6 + 4, none⟩ = some c4 ∧ w.cell? ⟨b, o + k * 6 + 5, none⟩ = some c5 := by
  obtain ⟨xs, h1, h2⟩ := h
  have ht := h2 k l[k] (List.getElem?_eq_getElem hk)
  generalize hcs : (xs.drop (k * 6)).take 6 = cs at ht
  obtain ⟨c0, c1, c2, c3, c4, c5, rfl⟩ := RVAt.six ht
  obtain ⟨b, o, rfl, hF, k0, k1, k2, k3, k4, k5⟩ := row6_at h1 hk hcs
  exact ⟨b, o, c0, c1, c2, c3, c4, c5, rfl, hF, ht, k0, k1, k2, k3, k4, k5⟩

theorem cmpM_step {l1 l2 : List (ByteArray × T)} {k : Nat} (h1 : k < l1.length) (h2 : k < l2.length) : T.cmpM (l1.drop k) (l2.drop k) = if cmpS l1[k].1 l2[k].1 = 0 then (if T.cmp l1[k].2 l2[k].2 = 0 then T.cmpM (l1.drop (k + 1)) (l2.drop (k + 1)) else T.cmp l1[k].2 l2[k].2) else cmpS l1[k].1 l2[k].1 := by
  rw [List.drop_eq_getElem_cons h1, List.drop_eq_getElem_cons h2, T.cmpM]
theorem W2.drewN {w : World} {a0 a1 a2 a3 a4 a5 b0 b1 b2 b3 b4 b5 : Value} {W : World} (h : W2 w a0 a1 a2 a3 a4 a5 b0 b1 b2 b3 b4 b5 W) (m : Nat) : W2 w a0 a1 a2 a3 a4 a5 b0 b1 b2 b3 b4 b5 (W.drewN m) :=
  ⟨below_drewN h.below m, h.size, ⟨h.a.k0, h.a.k1, h.a.k2, h.a.k3, h.a.k4, h.a.k5⟩, ⟨h.b.k0, h.b.k1, h.b.k2, h.b.k3, h.b.k4, h.b.k5⟩⟩

end Go.Proofs.Ytajeghkjppkhcaa
