/-
  The reference's Field of a plain map, with the value that it finds.
-/
import Derived.Test.YtekaainjpddklaaField
import Derived.Test.YtekaainjpddklaaCells
set_option linter.unusedVariables false
set_option linter.unusedSimpArgs false
namespace Go.Proofs.Ytekaainjpddklaa
open Go.RowKit
attribute [local go_sem] run_store_float

/-- Field's answer: the value under the key, and whether there is one -/
def FieldIs (F : Nat → Prop) (l : List (ByteArray × RV)) (k : ByteArray) (w : World) (e : Ending) (w' : World) : Prop :=
  ∃ (d0 d1 : Int) (d2 : Nat) (d3 : ByteArray) (KA : Option Addr) (kl kc : Nat) (LA : Option Addr) (ll lc : Nat), e = .returned (.tuple #[.agg #[.int .i64 d0, .int .i64 d1, .float .f64 d2, .string d3, .slice KA kl kc, .slice LA ll lc], .bool (getT l k).isSome]) ∧
    (∀ rv, getT l k = some rv → RVAt F w' rv [.int .i64 d0, .int .i64 d1, .float .f64 d2, .string d3, .slice KA kl kc, .slice LA ll lc]) ∧ Below w.heap.size w w'

theorem found_getT {α : Type} {k : ByteArray} {l : List (ByteArray × α)} (hs : Sorted l) : found k l = (getT l k).isSome := by
  rw [Bool.eq_iff_iff, getT_some_iff]
  unfold found
  rw [decide_eq_true_iff]
  constructor
  · intro h
    rcases Nat.lt_or_ge (cnt k l) l.length with h1 | h1
    · rw [List.getElem?_eq_getElem h1] at h
      exact List.mem_map.2 ⟨_, List.getElem_mem h1, Option.some.inj h⟩
    · rw [List.getElem?_eq_none h1] at h
      cases h
  · intro h
    obtain ⟨p, hp, hpk⟩ := List.mem_map.1 h
    obtain ⟨i, hi, he⟩ := List.getElem_of_mem hp
    have hci : cnt k l = i := by
      have h1 := (cnt_lt hs i hi (k := k))
      have h2 : ¬ i < cnt k l := by
        rw [← h1, he, hpk, klt_irrefl]
        simp
      rcases Nat.lt_or_ge (cnt k l) i with h3 | h3
      · have hcl : cnt k l < l.length := by omega
        have h4 := (cnt_lt hs (cnt k l) hcl (k := k))
        have h5 : klt (l[cnt k l]).1 (l[i]).1 = true := List.pairwise_iff_getElem.1 hs _ _ hcl hi h3
        rw [he, hpk] at h5
        have := h4.1 h5
        omega
      · omega
    rw [hci, List.getElem?_eq_getElem hi, he]
    simp [hpk]
theorem getT_at {α : Type} {k : ByteArray} {l : List (ByteArray × α)} (hs : Sorted l) (hf : found k l = true) (h : cnt k l < l.length) : getT l k = some l[cnt k l].2 := by
  have hk : l[cnt k l].1 = k := by
    unfold found at hf
    rw [decide_eq_true_iff, List.getElem?_eq_getElem h] at hf
    exact Option.some.inj hf
  have hm := List.getElem_mem h
  generalize l[cnt k l] = p at hk hm
  subst hk
  exact getT_of hs hm

theorem field_ret2 {F : Nat → Prop} {l : List (ByteArray × RV)} {k : ByteArray} {fn : Func} {p q : Tmp} (hfn : fn.results = #[.cell p 26, .tmp q]) (tmps : Array Value) {w w1 : World} {kind n' : Int} {f : Nat} {s : ByteArray} {KA : Option Addr} {kl kc : Nat} {LA : Option Addr} {ll lc : Nat} {a0 a1 a2 a3 a4 a5 : Value} (hR : Bk w1 (w.heap.size + 1) 26 #[a0, a1, a2, a3, a4, a5]) (hb : Below w.heap.size w w1)
    (hv : ∀ rv, getT l k = some rv → RVAt F w rv [.int .i64 kind, .int .i64 n', .float .f64 f, .string s, .slice KA kl kc, .slice LA ll lc]) (hF : ∀ b, F b → b < w.heap.size)
    (hp : tmps.getD p undef = .pointer (some ⟨w.heap.size + 1, 0, none⟩)) {b : Bool} (hbb : (getT l k).isSome = b) (hq : tmps.getD q undef = .bool b) :
    bodyPost Try.prog fn (FieldIs F l k w) .ret { tmps := tmps, defers := [] } (set6 w1 (w.heap.size + 1) (.int .i64 kind) (.int .i64 n') (.float .f64 f) (.string s) (.slice KA kl kc) (.slice LA ll lc)) := by
  subst hbb
  have hb6 : Below w.heap.size w (set6 w1 (w.heap.size + 1) (.int .i64 kind) (.int .i64 n') (.float .f64 f) (.string s) (.slice KA kl kc) (.slice LA ll lc)) := set6_below _ _ _ _ _ _ hb (by omega)
  refine bodyPost_ret (results_cell_two hfn _ _ (w.heap.size + 1) 26 #[.int .i64 kind, .int .i64 n', .float .f64 f, .string s, .slice KA kl kc, .slice LA ll lc] (0, 0) _ (.bool (getT l k).isSome) hp hq (set6_same _ _ _ _ _ _ hR) Try.underlying26 rfl (by kernel_rfl)) rfl ?_
  exact ⟨_, _, _, _, _, _, _, _, _, _, rfl, fun rv h => (hv rv h).keeps (Keeps.below hb6 hF), hb6⟩

set_option maxRecDepth 100000 in
set_option maxHeartbeats 1000000 in
theorem field2_calls {F : Nat → Prop} (l : List (ByteArray × RV)) (hs : Sorted l) (w : World) (hF : ∀ b, F b → b < w.heap.size) (k : ByteArray) (mcs : List Value) (h : RVAt F w (fieldsRV l) mcs) :
    Calls Try.prog 43 #[.agg mcs.toArray, .string k] w (FieldIs F l k w) := by
  have hcl := cnt_le k l
  unfold fieldsRV at h
  generalize hkeys : l.map Prod.fst = keys at h
  generalize hvals : l.map Prod.snd = vals at h
  have e1 : keys.length = l.length := by rw [← hkeys]; simp
  have e2 : vals.length = l.length := by rw [← hvals]; simp
  cases h with
  | @mk _ _ _ _ _ _ KA LA kc lc xs h1 h2 h3 h4 h5 h6 h7 h8 h9 h10 h11 hK hL hx =>
  have hxs : RVs F w vals xs := ⟨by have := hL.1; omega, hx⟩
  have hK' : Row F w 1 KA l.length (l.map fun p => Value.string p.1) := by
    rw [← e1]
    have : (l.map fun p => Value.string p.1) = keys.map Value.string := by rw [← hkeys]; simp
    rw [this]
    exact hK
  have hix := hide fun (W : World) (hb : Below w.heap.size w W) => fieldIndex_calls l hs 6 0 0 ⟨#[]⟩ k KA kc (.slice LA l.length lc) W (by rw [← e1]; exact h6) (hK'.keeps (Keeps.below hb hF) |>.mono fun b h => Nat.lt_of_lt_of_le (hF b h) hb.size)
  have hL' : Row F w 6 LA l.length xs := by rw [← e2]; exact hL
  have HL := hide hL'
  have hval : ∀ i (hi : i < l.length), RVAt F w l[i].2 ((xs.drop (i * 6)).take 6) := by
    intro i hi
    refine hxs.2 i l[i].2 ?_
    rw [← hvals]
    simp [hi]
  have HX := hide hxs
  have HV := hide hval
  have Hlen := hide (show l.length ≤ 8796093022208 by unfold R47 at h6; omega)
  have hll := Hlen.out
  rw [e1, e2]
  have HE2 := hide e2
  have Hs := hide hs
  have HF := hide hF
  clear h1 h2 h3 h4 h5 h6 h7 h8 h9 h10 h11 hK hL hx hxs hK' hL' e1 e2 hkeys hvals hs hval hF
  obtain ⟨fb, hfb⟩ : ∃ fb, found k l = fb := ⟨_, rfl⟩
  rw [hfb] at hix
  have Hfb := hide hfb
  clear hfb
  go_enter Try.func43, Try.ntmps43
  go_wp2_with fail
  generalize hW : World.alloc _ _ = W
  have hb : Below w.heap.size w W := by rw [← hW]; exact below_two _ _ _
  have hM : Bk W w.heap.size 26 #[.int .i64 6, .int .i64 0, .float .f64 0, .string ⟨#[]⟩, .slice KA l.length kc, .slice LA l.length lc] := by rw [← hW]; exact (Bk.new _ _ _).alloc _
  have hR : Bk W (w.heap.size + 1) 26 #[.int .i64 0, .int .i64 0, .float .f64 0, .string ⟨#[]⟩, .slice none 0 0, .slice none 0 0] := by
    rw [← hW]
    have := Bk.new (w.alloc (.cells #[.int .i64 6, .int .i64 0, .float .f64 0, .string ⟨#[]⟩, .slice KA l.length kc, .slice LA l.length lc] 26)) 26 #[.int .i64 0, .int .i64 0, .float .f64 0, .string ⟨#[]⟩, .slice none 0 0, .slice none 0 0]
    simpa only [World.size_alloc] using this
  clear hW
  obtain ⟨p0, p1, p2, p3, p4, p5⟩ := Bx.of hM
  have HM := hide (And.intro hM (And.intro hR hb))
  clear hM hR hb
  go_wp2_with fail
  refine (hix.out W HM.out.2.2).mono ?_
  rintro e w1 ⟨rfl, hb1⟩
  clear p0 p1 p2 p3 p4 p5
  have hM := HM.out.1.below hb1 HM.out.1.lt
  have hR := HM.out.2.1.below hb1 HM.out.2.1.lt
  have hb : Below w.heap.size w w1 := HM.out.2.2.trans (hb1.mono HM.out.2.2.size)
  obtain ⟨p0, p1, p2, p3, p4, p5⟩ := Bx.of hM
  obtain ⟨q0, q1, q2, q3, q4, q5⟩ := Bx.of hR
  have q6 : ∀ i, w1.frozen? ⟨w.heap.size + 1, i, none⟩ = false := fun i => hR.free i
  have HR := hide (And.intro hR hb)
  have hcc0 : (0 : Int) ≤ (cnt k l : Int) := Int.natCast_nonneg _
  clear hM hR HM hb1 hix
  cases fb
  · have hno : getT l k = none := by
      have := Hfb.out
      rw [found_getT Hs.out] at this
      simpa using this
    have Hno := hide hno
    clear hb Hlen hno
    go_wp2
    exact field_ret2 rfl _ HR.out.1 HR.out.2 (fun rv h => by rw [Hno.out] at h; cases h) HF.out rfl (by rw [Hno.out]; rfl) rfl
  · have hlt := found_cnt Hfb.out
    have hlti : (cnt k l : Int) < (l.length : Int) := by omega
    have hgt := getT_at Hs.out Hfb.out hlt
    have hv := HV.out _ hlt
    generalize l[cnt k l].2 = rv at hgt hv
    generalize hcs : (xs.drop (cnt k l * 6)).take 6 = cs at hv
    obtain ⟨c0, c1, c2, c3, c4, cl4, cc4, c5, cl5, cc5, rfl⟩ := hv.form
    obtain ⟨b, o, rfl, hFF, k0, k1, k2, k3, k4, k5⟩ := row6_at (HL.out.keeps (Keeps.below hb HF.out)) hlt hcs
    have hFb : b < w.heap.size := HF.out b hFF
    have hbne : ¬ b = w.heap.size + 1 := by omega
    have hbne' : ¬ w.heap.size + 1 = b := by omega
    have Hv := hide hv
    have Hgt := hide hgt
    clear hb Hlen hcs hFF HX HL HV hgt hv
    go_wp2
    exact field_ret2 rfl _ HR.out.1 HR.out.2 (fun rv' h => by rw [Hgt.out] at h; cases h; exact Hv.out) HF.out rfl (by rw [Hgt.out]; rfl) rfl

end Go.Proofs.Ytekaainjpddklaa
