/-
  The reference's plain forms: spec.fieldIndex, WithField, plainList, plainMap, Clean.
-/
import Derived.Test.YtekaainjpddklaaPlain
import Derived.Test.YtekaainjpddklaaAppend
import Derived.BigQuiet
import Derived.Deep.QuietTactic
namespace Go.Proofs.Ytekaainjpddklaa
open Go.RowKit
attribute [local go_sem] run_store_float

/-- whether the key stands where it would be laid -/
def found {α : Type} (k : ByteArray) (l : List (ByteArray × α)) : Bool := decide ((l[cnt k l]?).map Prod.fst = some k)

set_option maxRecDepth 100000 in
set_option maxHeartbeats 1000000 in
theorem fieldIndex_calls {α : Type} (l : List (ByteArray × α)) (hs : Sorted l) (kind n : Int) (f : Nat) (s k : ByteArray) (KA : Option Addr) (kc : Nat) (lv : Value) (w : World) (hl : l.length * 16 ≤ R47) (hrow : Row (Old w) w 1 KA l.length (l.map fun p => Value.string p.1)) :
    Calls Try.prog 85 #[.agg #[.int .i64 kind, .int .i64 n, .float .f64 f, .string s, .slice KA l.length kc, lv], .string k] w fun e w' =>
      e = .returned (.tuple #[.int .i64 (cnt k l : Nat), .bool (found k l)]) ∧ Below w.heap.size w w' := by
  have hll : l.length ≤ 8796093022208 := by unfold R47 at hl; omega
  have HR := hide hrow
  have HS := hide hs
  clear hl hrow hs
  have hcl := cnt_le k l
  go_enter Try.func85, Try.ntmps85
  go_wp2
  go_quiet (fail)
  go_wp2
  go_loop [6, 7] (fun lo hi => ∃ a b : Nat, a ≤ cnt k l ∧ cnt k l ≤ b ∧ b ≤ l.length ∧ lo = .int .i64 a ∧ hi = .int .i64 b) (fun lo hi => (intOf hi).toNat - (intOf lo).toNat)
  case atStart => exact ⟨0, l.length, Nat.zero_le _, hcl, Nat.le_refl _, rfl, rfl⟩
  case round =>
    obtain ⟨a, b, ha, hb, hbl, rfl, rfl⟩ := hrel
    by_cases hab : a < b
    · obtain ⟨m, hm, hm1, hm2⟩ : ∃ m : Nat, (a : Int) + ((b : Int) - (a : Int)) / 2 = (m : Int) ∧ a ≤ m ∧ m < b := ⟨a + (b - a) / 2, by omega, by omega, by omega⟩
      have hml : m < l.length := by omega
      obtain ⟨kb, ko, rfl, hF, hc⟩ := row1_at (u := Value.string (l[m]).1) HR.out hml (by simp [hml])
      have hF' : kb < w.heap.size := hF
      have hiff := hide (cnt_lt (k := k) HS.out m hml)
      generalize (l[m]).1 = km at hc hiff
      cases hlt : Op.bytesLess km.toList k.toList
      · have hge : cnt k l ≤ m := by
          have := hiff.out
          unfold klt at this
          rw [hlt] at this
          simp at this
          omega
        go_wp2
        go_round
        case rel => exact ⟨a, m, ha, hge, by omega, rfl, rfl⟩
        case measure => simp [intOf]; omega
      · have hge : m + 1 ≤ cnt k l := by
          have := hiff.out
          unfold klt at this
          rw [hlt] at this
          simp at this
          omega
        go_wp2
        go_round
        case rel => exact ⟨m + 1, b, hge, hb, hbl, by go_num, rfl⟩
        case measure => simp [intOf]; omega
    · have e1 : a = cnt k l := by omega
      subst e1
      have Hf := hide (show found k l = decide ((l[cnt k l]?).map Prod.fst = some k) from rfl)
      generalize hcc : cnt k l = c at *
      have Hcc := hide hcc
      clear hcc
      have hbelow : ∀ o : Obj, ∀ q q', Below w.heap.size w (((w.alloc o).drewN q).drewN q') := fun o q q' => ⟨rfl, rfl, rfl, by simp, fun i hi => Below.heap_alloc w o i hi⟩
      by_cases hcl' : c < l.length
      · obtain ⟨kb, ko, rfl, hF, hc⟩ := row1_at (u := Value.string (l[c]).1) HR.out hcl' (by simp [hcl'])
        have hF' : kb < w.heap.size := hF
        have hci : (c : Int) < (l.length : Int) := by omega
        have hfd : found k l = (((l[c]).1).toList == k.toList) := by
          rw [Hf.out, List.getElem?_eq_getElem hcl', Bool.eq_iff_iff]
          simp only [Option.map_some, Option.some.injEq, decide_eq_true_eq, beq_iff_eq]
          constructor
          · intro h; rw [h]
          · intro h; rw [Lib.toList_data, Lib.toList_data] at h; exact bytes_ext (by simpa using h)
        have HF := hide hfd
        clear hfd
        generalize (l[c]).1 = km at hc HF
        go_wp2
        go_quiet (fail)
        go_wp2
        go_ret2
        exact ⟨by rw [HF.out, Hcc.out]; rfl, hbelow _ _ _⟩
      · have hci : ¬ (c : Int) < (l.length : Int) := by omega
        have hd : decide ((c : Int) < (l.length : Int)) = false := by simpa using hci
        have hfd : found k l = false := by
          rw [Hf.out, List.getElem?_eq_none (by omega)]; simp
        go_wp2
        go_quiet (fail)
        go_wp2
        go_ret2
        exact ⟨by rw [hfd, Hcc.out]; rfl, hbelow _ _ _⟩

end Go.Proofs.Ytekaainjpddklaa
