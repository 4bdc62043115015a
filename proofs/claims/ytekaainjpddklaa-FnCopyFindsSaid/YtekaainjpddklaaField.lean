/-
  The reference's Field of a plain map (two results); a region in which two operations may come up.
-/
import Derived.Test.YtekaainjpddklaaLaw
set_option linter.unusedVariables false
set_option linter.unusedSimpArgs false
namespace Go.Proofs.Ytekaainjpddklaa
open Go.RowKit
attribute [local go_sem] run_store_float

theorem results_cell_two {P : Program} {fn : Func} {p q : Tmp} {ty : TypeId} (h : fn.results = #[.cell p ty, .tmp q]) (tmps : Array Value) (w : World) (g : Nat) (t : TypeId) (cs : Array Value) (fr : Nat × Nat) (d : TypeDesc) (b : Value)
    (hp : tmps.getD p undef = .pointer (some ⟨g, 0, none⟩)) (hb : tmps.getD q undef = b) (hg : w.heap[g]? = some (.cells cs t fr))
    (hu : P.underlying ty = some d) (hd : (match d with | .struct _ | .array _ _ => true | _ => false) = true) (hi : (P.info? ty).map (·.size) = some cs.size) :
    (results fn tmps).run P w = .ok (.tuple #[.agg cs, b]) w := by
  have hp' : tmps[p]?.getD undef = .pointer (some ⟨g, 0, none⟩) := by simpa using hp
  have hb' : tmps[q]?.getD undef = b := by simpa using hb
  simp [results, h, hp', hb', asAddr, run_loadVar_row w g t ty cs fr d hg hu hd hi]

/-- Field's answer: a struct and whether the field is there -/
def FieldPost (b : Bool) (w : World) (e : Ending) (w' : World) : Prop :=
  ∃ (kind n : Int) (f : Nat) (s : ByteArray) (KA : Option Addr) (kl kc : Nat) (LA : Option Addr) (ll lc : Nat), e = .returned (.tuple #[.agg #[.int .i64 kind, .int .i64 n, .float .f64 f, .string s, .slice KA kl kc, .slice LA ll lc], .bool b]) ∧ Below w.heap.size w w'

theorem found_cnt {α : Type} {k : ByteArray} {l : List (ByteArray × α)} (h : found k l = true) : cnt k l < l.length := by
  rcases Nat.lt_or_ge (cnt k l) l.length with h1 | h1
  · exact h1
  · rw [found, List.getElem?_eq_none h1] at h
    simp at h

theorem RVs.six_at {F : Nat → Prop} {w : World} {rs : List RV} {xs : List Value} (h : RVs F w rs xs) {i : Nat} (hi : i < rs.length) :
    ∃ (kind n : Int) (f : Nat) (s : ByteArray) (KA : Option Addr) (kl kc : Nat) (LA : Option Addr) (ll lc : Nat), (xs.drop (i * 6)).take 6 = [.int .i64 kind, .int .i64 n, .float .f64 f, .string s, .slice KA kl kc, .slice LA ll lc] := by
  generalize hcs : (xs.drop (i * 6)).take 6 = cs
  have := h.2 i rs[i] (by simp [hi])
  rw [hcs] at this
  generalize rs[i] = r at this
  cases this
  exact ⟨_, _, _, _, _, _, _, _, _, _, rfl⟩

theorem below_set6 {a w : World} {B g : Nat} (c0 c1 c2 c3 c4 c5 : Value) (h : Below B a w) (hB : B ≤ g) : Below B a ((((((w.setCell ⟨g, 0, none⟩ c0).setCell ⟨g, 1, none⟩ c1).setCell ⟨g, 2, none⟩ c2).setCell ⟨g, 3, none⟩ c3).setCell ⟨g, 4, none⟩ c4).setCell ⟨g, 5, none⟩ c5) := set6_below _ _ _ _ _ _ h hB

theorem field_ret {fn : Func} {p q : Tmp} (hfn : fn.results = #[.cell p 26, .tmp q]) (tmps : Array Value) {w w1 : World} {b : Bool} {kind n' : Int} {f : Nat} {s : ByteArray} {KA : Option Addr} {kl kc : Nat} {LA : Option Addr} {ll lc : Nat} {a0 a1 a2 a3 a4 a5 : Value} (hR : Bk w1 (w.heap.size + 1) 26 #[a0, a1, a2, a3, a4, a5]) (hb : Below w.heap.size w w1)
    (hp : tmps.getD p undef = .pointer (some ⟨w.heap.size + 1, 0, none⟩)) (hq : tmps.getD q undef = .bool b) :
    bodyPost Try.prog fn (FieldPost b w) .ret { tmps := tmps, defers := [] } (set6 w1 (w.heap.size + 1) (.int .i64 kind) (.int .i64 n') (.float .f64 f) (.string s) (.slice KA kl kc) (.slice LA ll lc)) := by
  refine bodyPost_ret (results_cell_two hfn _ _ (w.heap.size + 1) 26 #[.int .i64 kind, .int .i64 n', .float .f64 f, .string s, .slice KA kl kc, .slice LA ll lc] (0, 0) _ (.bool b) hp hq (set6_same _ _ _ _ _ _ hR) Try.underlying26 rfl (by kernel_rfl)) rfl ?_
  exact ⟨_, _, _, _, _, _, _, _, _, _, rfl, set6_below _ _ _ _ _ _ hb (by omega)⟩

set_option maxRecDepth 100000 in
set_option maxHeartbeats 1000000 in
theorem field_calls (l : List (ByteArray × RV)) (hs : Sorted l) (w : World) (k : ByteArray) (mcs : List Value) (h : RVAt (Old w) w (fieldsRV l) mcs) :
    Calls Try.prog 43 #[.agg mcs.toArray, .string k] w (FieldPost (found k l) w) := by
  have hcl := cnt_le k l
  unfold fieldsRV at h
  generalize hkeys : l.map Prod.fst = keys at h
  generalize hvals : l.map Prod.snd = vals at h
  have e1 : keys.length = l.length := by rw [← hkeys]; simp
  have e2 : vals.length = l.length := by rw [← hvals]; simp
  cases h with
  | @mk _ _ _ _ _ _ KA LA kc lc xs h1 h2 h3 h4 h5 h6 h7 h8 h9 h10 h11 hK hL hx =>
  have hxs : RVs (Old w) w vals xs := ⟨by have := hL.1; omega, hx⟩
  have hK' : Row (Old w) w 1 KA l.length (l.map fun p => Value.string p.1) := by
    rw [← e1]
    have : (l.map fun p => Value.string p.1) = keys.map Value.string := by rw [← hkeys]; simp
    rw [this]
    exact hK
  have hix := hide fun (W : World) (hb : Below w.heap.size w W) => fieldIndex_calls l hs 6 0 0 ⟨#[]⟩ k KA kc (.slice LA l.length lc) W (by rw [← e1]; exact h6) (hK'.keeps (Keeps.below hb fun _ h => h) |>.mono fun _ h => Nat.lt_of_lt_of_le h hb.size)
  have hL' : Row (Old w) w 6 LA l.length xs := by rw [← e2]; exact hL
  have HL := hide hL'
  have HX := hide hxs
  have Hlen := hide (show l.length ≤ 8796093022208 by unfold R47 at h6; omega)
  have hll := Hlen.out
  rw [e1, e2]
  have HE2 := hide e2
  clear h1 h2 h3 h4 h5 h6 h7 h8 h9 h10 h11 hK hL hx hxs hK' hL' e1 e2 hkeys hvals hs
  obtain ⟨fb, hfb⟩ : ∃ fb, found k l = fb := ⟨_, rfl⟩
  rw [hfb] at hix
  rw [hfb]
  have Hfb := hide hfb
  clear hfb
  go_enter Try.func43, Try.ntmps43
  go_wp2_with fail
  generalize hW : World.alloc _ _ = W
  have hb : Below w.heap.size w W := by rw [← hW]; exact below_two _ _ _
  have hM : Bk W w.heap.size 26 #[.int .i64 6, .int .i64 0, .float .f64 0, .string ⟨#[]⟩, .slice KA l.length kc, .slice LA l.length lc] := by rw [← hW]; exact (Bk.new _ _ _).alloc _
  have hR : Bk W (w.heap.size + 1) 26 #[.int .i64 0, .int .i64 0, .float .f64 0, .string ⟨#[]⟩, .slice none 0 0, .slice none 0 0] := by
    rw [← hW]
    have := Bk.new (w.alloc (.cells #[.int .i64 6, .int .i64 0, .float .f64 0, .string ⟨#[]⟩, .slice KA l.length kc, .slice LA l.length lc] 26)) 26 #[.int .i64 0, .int .i64 0, .float .f64 0, .string ⟨#[]⟩, .slice none 0 0, .slice none 0 0]
    simpa only [World.size_alloc] using this
  clear hW
  obtain ⟨p0, p1, p2, p3, p4, p5⟩ := Bx.of hM
  have HM := hide (And.intro hM (And.intro hR hb))
  clear hM hR hb
  go_wp2_with fail
  refine (hix.out W HM.out.2.2).mono ?_
  rintro e w1 ⟨rfl, hb1⟩
  clear p0 p1 p2 p3 p4 p5
  have hM := HM.out.1.below hb1 HM.out.1.lt
  have hR := HM.out.2.1.below hb1 HM.out.2.1.lt
  have hb : Below w.heap.size w w1 := HM.out.2.2.trans (hb1.mono HM.out.2.2.size)
  obtain ⟨p0, p1, p2, p3, p4, p5⟩ := Bx.of hM
  obtain ⟨q0, q1, q2, q3, q4, q5⟩ := Bx.of hR
  have q6 : ∀ i, w1.frozen? ⟨w.heap.size + 1, i, none⟩ = false := fun i => hR.free i
  have HR := hide (And.intro hR hb)
  have hcc0 : (0 : Int) ≤ (cnt k l : Int) := Int.natCast_nonneg _
  clear hM hR HM hb1 hix
  cases fb
  · clear hb Hlen
    go_wp2
    exact field_ret rfl _ HR.out.1 HR.out.2 rfl rfl
  · have hlt := found_cnt Hfb.out
    have hlti : (cnt k l : Int) < (l.length : Int) := by omega
    obtain ⟨c0, c1, c2, c3, c4, cl4, cc4, c5, cl5, cc5, hcs⟩ := HX.out.six_at (i := cnt k l) (by rw [HE2.out]; exact hlt)
    obtain ⟨b, o, rfl, hF, k0, k1, k2, k3, k4, k5⟩ := row6_at (HL.out.keeps (Keeps.below hb fun _ h => h)) hlt hcs
    have hFb : b < w.heap.size := hF
    have hbne : ¬ b = w.heap.size + 1 := by omega
    have hbne' : ¬ w.heap.size + 1 = b := by omega
    clear hb Hlen hcs hF HX HL
    go_wp2
    exact field_ret rfl _ HR.out.1 HR.out.2 rfl rfl

section
variable {P : Program} {l : List Oper} {Q : Exit → Act → World → Prop} {S : World → Prop} {n : Nat}
/-- two operations may come up now: either is carried out -/
theorem HT.two (i j : Nat) {oi oj : Oper} {ri rj : List Oper} {f : Nat} {listed : Array Bool} {a : Act} {w : World} (hdi : l.drop i = oi :: ri) (hdj : l.drop j = oj :: rj)
    (hr : (Region.ready .any l.toArray listed == [i, j] && decide (i < n) && decide (j < n)) = true)
    (hwi : Region.wanted oi (yielded l.toArray a.tmps) = true) (hwj : Region.wanted oj (yielded l.toArray a.tmps) = true)
    (hi : ∀ K : Act → World → Prop, Held (∀ a' w', S w' → HT P l Q S n f (listed.setIfInBounds i true) a' w' → K a' w') → oi.wp P a w K Q)
    (hj : ∀ K : Act → World → Prop, Held (∀ a' w', S w' → HT P l Q S n f (listed.setIfInBounds j true) a' w' → K a' w') → oj.wp P a w K Q) : HT P l Q S n (f + 1) listed a w := by
  intro inv
  replace hi : wpOp P l.toArray Q i (fun a' w' => S w' ∧ HT P l Q S n f (listed.setIfInBounds i true) a' w') a w := by
    unfold wpOp
    simp only [at_of_drop hdi, hwi, if_true]
    exact .inl (hi _ fun a' w' h1 h2 => ⟨h1, h2⟩)
  replace hj : wpOp P l.toArray Q j (fun a' w' => S w' ∧ HT P l Q S n f (listed.setIfInBounds j true) a' w') a w := by
    unfold wpOp
    simp only [at_of_drop hdj, hwj, if_true]
    exact .inl (hj _ fun a' w' h1 h2 => ⟨h1, h2⟩)
  simp only [Bool.and_eq_true, beq_iff_eq, decide_eq_true_eq] at hr
  obtain ⟨⟨hr, hin⟩, hjn⟩ := hr
  refine ⟨by rw [hr]; simp, fun m hm => ?_⟩
  have hmij : m = i ∨ m = j := by rw [hr] at hm; simpa using hm
  rcases hmij with rfl | rfl
  · exact ⟨hin, wpOp_mono (fun a' w' h' => ⟨h'.1, h'.2 (inv.set hm hin)⟩) hi⟩
  · exact ⟨hjn, wpOp_mono (fun a' w' h' => ⟨h'.1, h'.2 (inv.set hm hjn)⟩) hj⟩
end

end Go.Proofs.Ytekaainjpddklaa
