/-
  The statements' bounds on sizes (zzFits..), as what they answer: a Bool; true bounds the lengths.
-/
import Derived.Test.YtekaainjpddklaaPlain
namespace Go.Proofs.Ytekaainjpddklaa
open Go.RowKit
attribute [local go_sem] run_store_float

def GivesBound (p : Prop) (w : World) (e : Ending) (w' : World) : Prop := ∃ b : Bool, e = .returned (.bool b) ∧ (b = true → p) ∧ Below w.heap.size w w'

def ZInv (w : World) (n : Nat) (ctr : Value) (wr : World) : Prop := ∃ k : Nat, k ≤ n ∧ ctr = .int .i64 k ∧ wr = w

set_option maxRecDepth 100000 in
theorem zzFits2_calls (keys : List ByteArray) (A : Option Addr) (c : Nat) (w : World) (h16 : keys.length * 16 ≤ R47) (hks : ∀ k ∈ keys, k.size ≤ R47) (hrow : Row (Old w) w 1 A keys.length (keys.map Value.string)) :
    Calls Try.prog 57 #[.slice A keys.length c] w (GivesBound (keys.length ≤ 2147483647) w) := by
  have hlb : keys.length ≤ 8796093022208 := by unfold R47 at h16; omega
  have Hrow := hide hrow
  have Hks := hide hks
  clear hrow hks h16
  by_cases hbig : (keys.length : Int) ≤ 2147483647
  · go_enter Try.func57, Try.ntmps57
    go_wp2
    go_loopw [10] (fun ctr wr => ZInv w keys.length ctr wr) (fun ctr _ => keys.length - (intOf ctr).toNat)
    case atStart => exact ⟨0, Nat.zero_le _, rfl, rfl⟩
    case round =>
      obtain ⟨k, hk, rfl, rfl⟩ := hrel
      by_cases hlt : k < keys.length
      · obtain ⟨b, o, rfl, hF, hc⟩ := row1_at (u := Value.string keys[k]) Hrow.out hlt (by simp [hlt])
        have hki0 : (0 : Int) ≤ (k : Int) := Int.natCast_nonneg _
        have hki1 : (k : Int) < (keys.length : Int) := by omega
        have hsz : keys[k].size ≤ 140737488351232 := Hks.out _ (List.getElem_mem hlt)
        by_cases hs : (keys[k].size : Int) ≤ 2147483647
        · go_wp2
          go_roundw
          case rel => exact ⟨k + 1, by omega, by simp, rfl⟩
          case measure => simp [intOf]; omega
        · go_wp2
          go_ret
          exact ⟨false, rfl, by simp, Below.refl _ _⟩
      · have hki1 : ¬ (k : Int) < (keys.length : Int) := by omega
        go_wp2
        go_ret
        exact ⟨true, rfl, fun _ => by omega, Below.refl _ _⟩
  · go_enter Try.func57, Try.ntmps57
    go_wp2
    go_ret
    exact ⟨false, rfl, by simp, Below.refl _ _⟩

set_option maxRecDepth 100000 in
theorem zzFits5_calls (kind n : Int) (f : Nat) (s : ByteArray) (keys : List ByteArray) (l : List RV) (w : World) (cs : List Value) (hrv : RVAt (Old w) w (.mk kind n f s keys l) cs) :
    Calls Try.prog 15 #[.agg cs.toArray] w (GivesBound (keys.length ≤ 2147483647 ∧ l.length ≤ 2147483647) w) := by
  cases hrv with
  | @mk _ _ _ _ _ _ KA LA kc lc xs h1 h2 h3 h4 h5 h6 h7 h8 h9 h10 h11 hKrow hLrow hx =>
  have hss : s.size ≤ 140737488351232 := h4
  have hll : l.length ≤ 8796093022208 := by unfold R47 at h7; omega
  have Hz := hide (zzFits2_calls keys KA kc (w.alloc (.cells #[.int .i64 kind, .int .i64 n, .float .f64 f, .string s, .slice KA keys.length kc, .slice LA l.length lc] 26)) h6 h5 ((hKrow.keeps (Keeps.alloc _ _ fun x hx => hx)).mono fun x hx => by simp only [Old, World.size_alloc] at hx ⊢; omega))
  clear h1 h2 h3 h4 h5 h6 h7 h8 h9 h10 h11 hKrow hLrow hx
  by_cases hsz : (s.size : Int) ≤ 2147483647
  · go_enter Try.func15, Try.ntmps15
    go_wp2_with fail
    refine Hz.out.mono ?_
    rintro e w1 ⟨b, rfl, hb, hbel⟩
    have q5 := (bcell hbel).1 w.heap.size 5 (by simp)
    simp at q5
    have Hb := hide (And.intro hb (((Below.refl _ _).alloc (Nat.le_refl _) (.cells #[.int .i64 kind, .int .i64 n, .float .f64 f, .string s, .slice KA keys.length kc, .slice LA l.length lc] 26)).trans (hbel.mono (by simp only [World.size_alloc]; omega))))
    clear hb hbel
    cases b
    · go_wp2
      go_ret
      exact ⟨false, rfl, by simp, Hb.out.2⟩
    · by_cases hlz : (l.length : Int) ≤ 2147483647
      · go_wp2
        go_ret
        exact ⟨true, rfl, fun _ => ⟨Hb.out.1 (by simp), by omega⟩, Hb.out.2⟩
      · go_wp2
        go_ret
        exact ⟨false, rfl, by simp, Hb.out.2⟩
  · go_enter Try.func15, Try.ntmps15
    go_wp2
    go_ret
    exact ⟨false, rfl, by simp, (Below.refl _ _).alloc (Nat.le_refl _) _⟩

end Go.Proofs.Ytekaainjpddklaa
