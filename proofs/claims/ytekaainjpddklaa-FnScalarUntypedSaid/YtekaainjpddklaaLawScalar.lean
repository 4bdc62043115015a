/-
  The law FnScalarUntyped, of every value: it answers true and leaves what stood. No condition.
-/
import Derived.Test.YtekaainjpddklaaFits
import Derived.Test.YtekaainjpddklaaZz
import Derived.Test.YtekaainjpddklaaCleanAll
namespace Go.Proofs.Ytekaainjpddklaa
open Go.RowKit
attribute [local go_sem] run_store_float

/-- how many of the first k kinds let t in -/
def cntF (t : T) (k : Nat) : Int := (if 0 < k ∧ t.fitsNum then 1 else 0) + (if 1 < k ∧ t.fitsStr then 1 else 0) + (if 2 < k ∧ t.fitsBoo then 1 else 0)

def SLInv (w : World) (cs : List Value) (t : T) (n ctr : Value) (wr : World) : Prop := ∃ k : Nat, k ≤ 3 ∧ ctr = .int .i64 k ∧ n = .int .i64 (cntF t k) ∧ Bk wr w.heap.size 26 cs.toArray ∧ Below w.heap.size w wr

theorem slinv_val {w W : World} {cs : List Value} {rv : RV} (hrv : RVAt (Old w) w rv cs) (hb : Below w.heap.size w W) : RVAt (Old W) W rv cs :=
  (hrv.keeps (Keeps.below hb fun x hx => hx)).mono fun x hx => Nat.lt_of_lt_of_le hx hb.size

theorem cntF_val (t : T) : cntF t 3 = match t with | .null => 3 | .list _ => 0 | .map _ => 0 | _ => 1 := by
  cases t <;> simp [cntF, T.fitsNum, T.fitsStr, T.fitsBoo, T.isNull, T.isFlt, T.isInt, T.isStr, T.isBool]

theorem cnt_t0 (t : T) (h : t.fitsNum = true) : Value.int .i64 (wrap64 (cntF t 0 + 1)) = .int .i64 (cntF t 1) := by
  cases t <;> simp [cntF, T.fitsNum, T.fitsStr, T.fitsBoo, T.isNull, T.isFlt, T.isInt, T.isStr, T.isBool] at h ⊢ <;> exact IntWalk.wrap64_in _ ⟨by omega, by omega⟩
theorem cnt_f0 (t : T) (h : t.fitsNum = false) : Value.int .i64 (cntF t 0) = .int .i64 (cntF t 1) := by
  cases t <;> simp [cntF, T.fitsNum, T.fitsStr, T.fitsBoo, T.isNull, T.isFlt, T.isInt, T.isStr, T.isBool] at h ⊢ <;> exact IntWalk.wrap64_in _ ⟨by omega, by omega⟩
theorem cnt_t1 (t : T) (h : t.fitsStr = true) : Value.int .i64 (wrap64 (cntF t 1 + 1)) = .int .i64 (cntF t 2) := by
  cases t <;> simp [cntF, T.fitsNum, T.fitsStr, T.fitsBoo, T.isNull, T.isFlt, T.isInt, T.isStr, T.isBool] at h ⊢ <;> exact IntWalk.wrap64_in _ ⟨by omega, by omega⟩
theorem cnt_f1 (t : T) (h : t.fitsStr = false) : Value.int .i64 (cntF t 1) = .int .i64 (cntF t 2) := by
  cases t <;> simp [cntF, T.fitsNum, T.fitsStr, T.fitsBoo, T.isNull, T.isFlt, T.isInt, T.isStr, T.isBool] at h ⊢ <;> exact IntWalk.wrap64_in _ ⟨by omega, by omega⟩
theorem cnt_t2 (t : T) (h : t.fitsBoo = true) : Value.int .i64 (wrap64 (cntF t 2 + 1)) = .int .i64 (cntF t 3) := by
  cases t <;> simp [cntF, T.fitsNum, T.fitsStr, T.fitsBoo, T.isNull, T.isFlt, T.isInt, T.isStr, T.isBool] at h ⊢ <;> exact IntWalk.wrap64_in _ ⟨by omega, by omega⟩
theorem cnt_f2 (t : T) (h : t.fitsBoo = false) : Value.int .i64 (cntF t 2) = .int .i64 (cntF t 3) := by
  cases t <;> simp [cntF, T.fitsNum, T.fitsStr, T.fitsBoo, T.isNull, T.isFlt, T.isInt, T.isStr, T.isBool] at h ⊢ <;> exact IntWalk.wrap64_in _ ⟨by omega, by omega⟩
theorem run_kind (c0 c1 c2 c3 c4 c5 : Value) (w : World) : (Instr.field 26 (.agg #[c0, c1, c2, c3, c4, c5]) 0).run Try.prog w = .ok c0 w := by kernel_rfl
theorem run_word0 (c0 c1 c2 : Value) (w : World) : (Instr.index 28 (.agg #[c0, c1, c2]) (.int .i64 0)).run Try.prog w = .ok c0 w := by kernel_rfl
theorem run_word1 (c0 c1 c2 : Value) (w : World) : (Instr.index 28 (.agg #[c0, c1, c2]) (.int .i64 1)).run Try.prog w = .ok c1 w := by kernel_rfl
theorem run_word2 (c0 c1 c2 : Value) (w : World) : (Instr.index 28 (.agg #[c0, c1, c2]) (.int .i64 2)).run Try.prog w = .ok c2 w := by kernel_rfl
attribute [local go_sem] run_kind run_word0 run_word1 run_word2
attribute [local go_sem] T.isNull T.isFlt T.isInt T.isStr T.isBool T.fitsNum T.fitsStr T.fitsBoo T.fitsUnt

set_option maxRecDepth 100000 in
set_option maxHeartbeats 400000 in
theorem scalarLaw (rv : RV) (w : World) (cs : List Value) (hrv : RVAt (Old w) w rv cs) :
    Calls Try.prog 3 #[.agg cs.toArray] w fun e w' => e = .returned (.bool true) ∧ Below w.heap.size w w' := by
  have HN := hide fun (W : World) (hb : Below w.heap.size w W) => scalarFitsNum rv W cs (slinv_val hrv hb)
  have HS := hide fun (W : World) (hb : Below w.heap.size w W) => scalarFitsStr rv W cs (slinv_val hrv hb)
  have HB := hide fun (W : World) (hb : Below w.heap.size w W) => scalarFitsBoo rv W cs (slinv_val hrv hb)
  have HU := hide fun (W : World) (hb : Below w.heap.size w W) => scalarFitsUnt rv W cs (slinv_val hrv hb)
  have HC := hide fun (W : World) (hb : Below w.heap.size w W) => clean_calls rv W cs (slinv_val hrv hb)
  have HZ : Hid (∀ (W : World), Below w.heap.size w W → Calls Try.prog 15 #[.agg cs.toArray] W fun e w' => (∃ b : Bool, e = .returned (.bool b)) ∧ Below W.heap.size W w') := by
    refine hide fun W hb => ?_
    obtain ⟨kind, n, f, s, keys, l⟩ := rv
    refine (zzFits5_calls kind n f s keys l W cs (slinv_val hrv hb)).mono ?_
    rintro e w' ⟨b, h1, _, h2⟩
    exact ⟨⟨b, h1⟩, h2⟩
  generalize rv.tree = t at HN HS HB HU HC
  cases hrv with
  | @mk kind n f s keys l KA LA kc lc xs h1 h2 h3 h4 h5 h6 h7 h8 h9 h10 h11 h12 h13 h14 =>
  clear h1 h2 h3 h4 h5 h6 h7 h8 h9 h10 h11 h12 h13 h14
  go_enter Try.func3, Try.ntmps3
  go_wp2_with fail
  refine (HZ.out _ ((Below.refl _ _).alloc (Nat.le_refl _) _)).mono ?_
  rintro e w1 ⟨⟨b, rfl⟩, hb1⟩
  have hbk := (Bk.new w 26 #[.int .i64 kind, .int .i64 n, .float .f64 f, .string s, .slice KA keys.length kc, .slice LA l.length lc]).below hb1 (by simp)
  have hbw : Below w.heap.size w w1 := ((Below.refl _ _).alloc (Nat.le_refl _) _).trans (hb1.mono (by simp only [World.size_alloc]; omega))
  have H1 := hide (And.intro hbk hbw)
  clear hbk hbw hb1 HZ
  cases b
  · go_wp2
    go_ret
    exact ⟨rfl, H1.out.2⟩
  · go_wp2
    go_loopw [3, 10] (fun nn ctr wr => SLInv w [.int .i64 kind, .int .i64 n, .float .f64 f, .string s, .slice KA keys.length kc, .slice LA l.length lc] t nn ctr wr) (fun _ ctr _ => 3 - (intOf ctr).toNat)
    case atStart => exact ⟨0, by omega, rfl, by simp [cntF], H1.out.1, H1.out.2⟩
    case round =>
      obtain ⟨k, hk, rfl, rfl, hbk, hb⟩ := hrel
      have q0 := hbk.cell 0
      have q1 := hbk.cell 1
      have q2 := hbk.cell 2
      have q3 := hbk.cell 3
      have q4 := hbk.cell 4
      have q5 := hbk.cell 5
      simp at q0 q1 q2 q3 q4 q5
      rcases (by omega : k = 0 ∨ k = 1 ∨ k = 2 ∨ k = 3) with rfl | rfl | rfl | rfl
      · rw [show ((0 : Nat) : Int) = 0 from rfl]
        go_wp2_with fail
        refine (HN.out _ hb).mono ?_
        rintro e w2 ⟨rfl, hb2⟩
        have Hb2 := hide (And.intro (hbk.below hb2 hbk.lt) (hb.trans (hb2.mono hb.size)))
        clear hb2 q0 q1 q2 q3 q4 q5 hbk hb
        cases hf : t.fitsNum
        all_goals
          go_wp2
          go_roundw
          case rel => exact ⟨1, by omega, rfl, by first | exact cnt_t0 t hf | exact cnt_f0 t hf, Hb2.out.1, Hb2.out.2⟩
          case measure => simp [intOf]
      · rw [show ((1 : Nat) : Int) = 1 from rfl]
        go_wp2_with fail
        refine (HS.out _ hb).mono ?_
        rintro e w2 ⟨rfl, hb2⟩
        have Hb2 := hide (And.intro (hbk.below hb2 hbk.lt) (hb.trans (hb2.mono hb.size)))
        clear hb2 q0 q1 q2 q3 q4 q5 hbk hb
        cases hf : t.fitsStr
        all_goals
          go_wp2
          go_roundw
          case rel => exact ⟨2, by omega, rfl, by first | exact cnt_t1 t hf | exact cnt_f1 t hf, Hb2.out.1, Hb2.out.2⟩
          case measure => simp [intOf]
      · rw [show ((2 : Nat) : Int) = 2 from rfl]
        go_wp2_with fail
        refine (HB.out _ hb).mono ?_
        rintro e w2 ⟨rfl, hb2⟩
        have Hb2 := hide (And.intro (hbk.below hb2 hbk.lt) (hb.trans (hb2.mono hb.size)))
        clear hb2 q0 q1 q2 q3 q4 q5 hbk hb
        cases hf : t.fitsBoo
        all_goals
          go_wp2
          go_roundw
          case rel => exact ⟨3, by omega, rfl, by first | exact cnt_t2 t hf | exact cnt_f2 t hf, Hb2.out.1, Hb2.out.2⟩
          case measure => simp [intOf]
      · rw [show ((3 : Nat) : Int) = 3 from rfl]
        generalize hcn : cntF t 3 = m
        rw [cntF_val] at hcn
        have Hcn := hide hcn
        clear hcn
        go_wp2_with fail
        refine (HC.out _ hb).mono ?_
        rintro e w3 ⟨ccs, rfl, hcc, hb3⟩
        have Hb3 := hide (And.intro (hbk.below hb3 hbk.lt) (hb.trans (hb3.mono hb.size)))
        have p0 := Hb3.out.1.cell 0
        have p1 := Hb3.out.1.cell 1
        have p2 := Hb3.out.1.cell 2
        have p3 := Hb3.out.1.cell 3
        have p4 := Hb3.out.1.cell 4
        have p5 := Hb3.out.1.cell 5
        simp at p0 p1 p2 p3 p4 p5
        clear hb3 q0 q1 q2 q3 q4 q5 hbk hb
        cases t
        all_goals
          have hcn := Hcn.out
          dsimp only at hcn
          subst hcn
          clear Hcn
          unfold T.toRV at hcc
          cases hcc
          go_wp2_with (first | (go_at_call 16; refine (HU.out _ Hb3.out.2).mono ?_; rintro e w4 ⟨rfl, hb4⟩; have Hb4 := hide (Hb3.out.2.trans (hb4.mono Hb3.out.2.size)); clear hb4))
          all_goals
            go_ret
            exact ⟨rfl, by first | exact Hb4.out | exact Hb3.out.2⟩

end Go.Proofs.Ytekaainjpddklaa
