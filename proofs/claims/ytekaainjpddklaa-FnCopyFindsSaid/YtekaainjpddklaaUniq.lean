/-
  laws.isKey, laws.distinctAny, laws.uniqueTypes, laws.zzFits6.
-/
import Derived.Test.YtekaainjpddklaaSchTo
import Derived.Test.YtekaainjpddklaaLaw
set_option linter.unusedVariables false
set_option linter.unusedSimpArgs false
namespace Go.Proofs.Ytekaainjpddklaa
open Go.RowKit
attribute [local go_sem] run_store_float

/-- whether the name is among the keys; nothing is touched -/
def KeyPost (keys : List ByteArray) (name : ByteArray) (w : World) (e : Ending) (w' : World) : Prop := ∃ b : Bool, e = .returned (.bool b) ∧ (b = true ↔ name ∈ keys) ∧ w' = w
/-- at the head of a round of isKey -/
def IKInv (keys : List ByteArray) (name : ByteArray) (W : World) (s : Value) (W' : World) : Prop := ∃ k : Nat, s = .int .i64 (k : Int) ∧ k ≤ keys.length ∧ (∀ i x, i < k → keys[i]? = some x → x ≠ name) ∧ W' = W

set_option maxRecDepth 100000 in
set_option maxHeartbeats 2000000 in
theorem isKey_calls {keys : List ByteArray} {name : ByteArray} {A : Option Addr} {c : Nat} {w : World} (h16 : keys.length * 16 ≤ R47) (hA : Row (Old w) w 1 A keys.length (keys.map Value.string)) :
    Calls Try.prog 99 #[.slice A keys.length c, .string name] w (KeyPost keys name w) := by
  have hn : keys.length ≤ 8796093022208 := by unfold R47 at h16; omega
  have HA := hide hA
  clear hA h16
  go_enter Try.func99, Try.ntmps99
  go_wp2_with fail
  go_loopw [9] (fun s W => IKInv keys name w s W) (fun s _ => keys.length - (intOf s).toNat)
  case atStart => exact ⟨0, rfl, Nat.zero_le _, fun i x h => by omega, rfl⟩
  case round =>
    obtain ⟨k, rfl, hk, hno, rfl⟩ := hrel
    by_cases hlt : k < keys.length
    · obtain ⟨b, o, rfl, hF, hc0⟩ := row1_at (u := .string keys[k]) HA.out hlt (by simp [hlt])
      have hxk : keys[k]? = some keys[k] := List.getElem?_eq_getElem hlt
      have hmem : keys[k] ∈ keys := List.getElem_mem _
      generalize keys[k] = x at *
      have hki0 : (0 : Int) ≤ (k : Int) := Int.natCast_nonneg _
      have hki1 : (k : Int) < (keys.length : Int) := by omega
      have Hno := hide (And.intro hno hxk)
      have Hmem := hide hmem
      by_cases hx : x = name
      · subst hx
        have hst : (x.toList == x.toList) = true := by simp
        clear hno hxk hmem hF
        go_wp2
        go_ret
        exact ⟨true, rfl, ⟨fun _ => Hmem.out, fun _ => rfl⟩, rfl⟩
      · have hst : (x.toList == name.toList) = false := by rw [str_eq]; exact decide_eq_false hx
        have Hx := hide hx
        clear hno hxk hmem hF hx
        go_wp2_with fail
        refine ⟨⟨k + 1, by go_num, by omega, fun i y hi hy => ?_, rfl⟩, by simp [intOf]; omega⟩
        by_cases hik : i = k
        · subst hik
          have := Hno.out.2
          rw [hy] at this
          cases this
          exact Hx.out
        · exact Hno.out.1 i y (by omega) hy
    · have hki2 : ¬ (k : Int) < (keys.length : Int) := by omega
      have Hno := hide hno
      have hke : k = keys.length := by omega
      have Hke := hide hke
      clear hno hke
      go_wp2
      go_ret
      refine ⟨false, rfl, ⟨(fun h => by cases h), fun h => ?_⟩, rfl⟩
      obtain ⟨i, hi, e⟩ := List.getElem_of_mem h
      exact absurd e (Hno.out i _ (by rw [Hke.out]; exact hi) (List.getElem?_eq_getElem hi))

theorem isKey_take {keys : List ByteArray} {name : ByteArray} {A : Option Addr} {k c : Nat} {w : World} (h16 : keys.length * 16 ≤ R47) (hA : Row (Old w) w 1 A keys.length (keys.map Value.string)) (hk : k ≤ keys.length) :
    Calls Try.prog 99 #[.slice A k c, .string name] w (KeyPost (keys.take k) name w) := by
  have hl : (keys.take k).length = k := by simp [hk]
  have := isKey_calls (keys := keys.take k) (name := name) (A := A) (c := c) (w := w) (by rw [hl]; omega) (by
    have h := hA.take hk
    rw [Nat.mul_one] at h
    rw [hl, List.map_take]
    exact h)
  rwa [hl] at this

/-- a bool; if it is true then so is the fact -/
def AllPost (p : Prop) (w : World) (e : Ending) (w' : World) : Prop := OrdPost p w e w'

/-- at the head of a round of distinctAny -/
def DAInv (keys : List ByteArray) (W : World) (s : Value) (W' : World) : Prop := ∃ k : Nat, s = .int .i64 (k : Int) ∧ k ≤ keys.length ∧ (keys.take k).Nodup ∧ W' = W

set_option maxRecDepth 100000 in
set_option maxHeartbeats 2000000 in
theorem distinctAny_calls {keys : List ByteArray} {A : Option Addr} {c : Nat} {w : World} (h16 : keys.length * 16 ≤ R47) (hc : keys.length ≤ c) (hcm : c ≤ maxLen) (hA : Row (Old w) w 1 A keys.length (keys.map Value.string)) :
    Calls Try.prog 62 #[.slice A keys.length c] w (AllPost keys.Nodup w) := by
  have hn : keys.length ≤ 8796093022208 := by unfold R47 at h16; omega
  have hcm' : c ≤ 9223372036854775807 := hcm
  have HK := hide fun (k : Nat) (name : ByteArray) (hk : k ≤ keys.length) => isKey_take (name := name) (c := c) h16 hA hk
  have HA := hide hA
  clear hA h16
  go_enter Try.func62, Try.ntmps62
  go_wp2_with fail
  go_loopw [7] (fun s W => DAInv keys w s W) (fun s _ => keys.length - (intOf s).toNat)
  case atStart => exact ⟨0, rfl, Nat.zero_le _, by simp, rfl⟩
  case round =>
    obtain ⟨k, rfl, hk, hnd, rfl⟩ := hrel
    by_cases hlt : k < keys.length
    · obtain ⟨b, o, rfl, hF, hc0⟩ := row1_at (u := .string keys[k]) HA.out hlt (by simp [hlt])
      have hsn : keys.take (k + 1) = keys.take k ++ [keys[k]] := List.take_succ_eq_append_getElem hlt
      generalize keys[k] = x at *
      have hki0 : (0 : Int) ≤ (k : Int) := Int.natCast_nonneg _
      have hki1 : (k : Int) < (keys.length : Int) := by omega
      have hki2 : (k : Int) ≤ (c : Int) := by omega
      have Hnd := hide (And.intro hnd hsn)
      clear hnd hsn hF
      go_wp2_with fail
      refine (HK.out k x (by omega)).mono ?_
      rintro e w1 ⟨b', rfl, hb, rfl⟩
      cases b'
      · have Hb := hide hb
        clear hb
        go_wp2_with fail
        refine ⟨⟨k + 1, by go_num, by omega, ?_, rfl⟩, by simp [intOf]; omega⟩
        rw [Hnd.out.2]
        refine List.nodup_append.2 ⟨Hnd.out.1, by simp, fun a ha b hb2 e => ?_⟩
        rw [List.mem_singleton.1 hb2] at e
        subst e
        have := Hb.out.2 ha
        cases this
      · clear hb
        go_wp2
        go_ret
        exact ⟨false, rfl, (fun h => by cases h), Below.refl _ _⟩
    · have hki2 : ¬ (k : Int) < (keys.length : Int) := by omega
      have hke : k = keys.length := by omega
      have Hnd := hide (show keys.Nodup by rw [hke, List.take_length] at hnd; exact hnd)
      clear hnd hke
      go_wp2
      go_ret
      exact ⟨true, rfl, fun _ => Hnd.out, Below.refl _ _⟩

/-- the name of a named type -/
def tname : Ytekaainjpddklaa.S → ByteArray
  | .def_ n _ => n
  | _ => ⟨#[]⟩

/-- at the head of a round of uniqueTypes -/
def UTInv (w : World) (box : Array Value) (ns : List ByteArray) (s3 s10 : Value) (W : World) : Prop :=
  ∃ k : Nat, s10 = .int .i64 (k : Int) ∧ k ≤ ns.length ∧ Bk W w.heap.size 33 box ∧ W.ownsRow (w.heap.size + 1) 9 1 s3 k ((ns.take k).map Value.string) ∧ Below w.heap.size w W ∧ w.heap.size + 1 ≤ W.heap.size

theorem ut_step {w wr w2 : World} {box : Array Value} {us : List Value} {ns : List ByteArray} {k : Nat} {nm : ByteArray} {s3 v' : Value} {o1 o2 : Obj} (hk : k < ns.length) (hsn : ns.take (k + 1) = ns.take k ++ [nm]) (hbx : Bk wr w.heap.size 33 box) (hown : wr.ownsRow (w.heap.size + 1) 9 1 s3 k ((ns.take k).map Value.string)) (hb : Below w.heap.size w wr) (hB : w.heap.size + 1 ≤ wr.heap.size) (hus : (ns.take k).map Value.string = us)
    (hown2 : w2.ownsRow (w.heap.size + 1) 9 1 v' (k + 1) (us ++ [.string nm])) (hg : ((wr.alloc o1).alloc o2).grownBy w2 s3.ownBlock) : UTInv w box ns v' (.int .i64 ((k + 1 : Nat) : Int)) w2 := by
  have hlo : ∀ k, s3.ownBlock = some k → w.heap.size + 1 ≤ k ∧ k < wr.heap.size := hown.lt
  have hsz := grown_size hg
  simp only [World.size_alloc] at hsz
  refine ⟨k + 1, rfl, by omega, ((hbx.alloc _).alloc _).grown hg (fun e => by have := (hlo _ e.symm).1; omega), ?_, ?_, by omega⟩
  · rw [hsn, List.map_append, hus]
    exact hown2
  · refine Below.grown ((hb.alloc hb.size _).alloc (by rw [World.size_alloc]; omega) _) hg (by simp only [World.size_alloc]; omega) fun k e => ?_
    have := (hlo k e).1
    omega

set_option maxRecDepth 100000 in
set_option maxHeartbeats 4000000 in
theorem uniqueTypes_calls {ts : List Ytekaainjpddklaa.S} {TA : Option Addr} {tc : Nat} {w : World} (h : SchS (Old w) w ts TA tc) :
    Calls Try.prog 19 #[.agg #[.slice TA ts.length tc]] w (AllPost (ts.map tname).Nodup w) := by
  obtain ⟨h1, h2, h3, xs, h4, h5⟩ := h
  have h1' : ts.length * 80 ≤ 140737488351232 := h1
  have H7 := hide (And.intro h1 (And.intro h4 h5))
  obtain ⟨i9, hi9, hz9, hs9, hb9⟩ := info_parts str_info'
  clear h1 h4 h5
  go_enter Try.func19, Try.ntmps19
  go_wp2_with fail
  have hbox := (Bk.new w 33 #[.slice TA ts.length tc]).alloc (.cells #[] 9)
  have hb0 : Below w.heap.size w ((w.alloc (.cells #[.slice TA ts.length tc] 33)).alloc (.cells #[] 9)) := below_two _ _ _
  have hown0 := World.ownsRow_lit (base := w.heap.size + 1) (e := 9) (size := 1) (w.alloc (.cells #[.slice TA ts.length tc] 33)) #[] 0 (by simp) (by simp [maxLen]) (by simp)
  rw [World.size_alloc] at hown0
  have hz0 : w.heap.size + 1 ≤ ((w.alloc (.cells #[.slice TA ts.length tc] 33)).alloc (.cells #[] 9)).heap.size := by simp
  have q0 := hbox.cell 0
  simp at q0
  have H0 := hide (And.intro hbox (And.intro hb0 (And.intro hown0 hz0)))
  clear hbox hb0 hown0 hz0
  go_loopw [3, 10] (fun s3 s10 W => UTInv w #[.slice TA ts.length tc] (ts.map tname) s3 s10 W) (fun _ s _ => ts.length - (intOf s).toNat)
  case atStart => exact ⟨0, rfl, Nat.zero_le _, H0.out.1, H0.out.2.2.1, H0.out.2.1, H0.out.2.2.2⟩
  case round =>
    clear q0
    obtain ⟨k, rfl, hk, hbx, hown, hb, hB⟩ := hrel
    rw [List.length_map] at hk
    by_cases hlt : k < ts.length
    · have hki0 : (0 : Int) ≤ (k : Int) := Int.natCast_nonneg _
      have hki1 : (k : Int) < (ts.length : Int) := by omega
      have hx := H7.out.2.2.at_ hlt
      have hsn : (ts.map tname).take (k + 1) = (ts.map tname).take k ++ [tname ts[k]] := by rw [List.take_succ_eq_append_getElem (by simpa using hlt), List.getElem_map]
      generalize ts[k] = fx at *
      generalize hcs : (xs.drop (k * 4)).take 4 = fcs at hx
      obtain ⟨nm, sc, LA, ln, lc, MA, mn, mc, a, rfl, rfl, hn, ha⟩ := hx.def_form
      obtain ⟨rb, ro, rfl, hF, hc⟩ := rown_at H7.out.2.1 hlt hcs
      have hkc0 := hc 0 _ rfl
      rw [Nat.add_zero] at hkc0
      have hkc1 := hc 1 _ rfl
      have hkc2 := hc 2 _ rfl
      have hkc3 := hc 3 _ rfl
      have ec := (bcell hb).1
      rw [← ec _ _ hF] at hkc0 hkc1 hkc2 hkc3
      have hrb : rb < w.heap.size := hF
      obtain ⟨us, hus⟩ : ∃ us, ((ts.map tname).take k).map Value.string = us := ⟨_, rfl⟩
      have hsn : (ts.map tname).take (k + 1) = (ts.map tname).take k ++ [nm] := hsn
      have Hst := fun w2 v' o1 o2 => hide (ut_step (w2 := w2) (v' := v') (o1 := o1) (o2 := o2) (by rw [List.length_map]; exact hlt) hsn hbx hown hb hB hus)
      rw [hus] at hown
      clear hus
      obtain ⟨oA, oc, rfl, _, _⟩ := own_form hown
      have Hown := hide (And.intro hown hB)
      have hn32 : k + 1 ≤ 8796093022208 := by omega
      clear hown hbx hsn hb hx ha hc ec hcs hF hk
      go_wp2_with (at_builtin; refine wpList_append_own_at _ rfl (.tmp 14) (.tmp 17) 23 rfl (w.heap.size + 1) 9 i9 _ 1 16 Try.underlying23 hi9 hz9 hs9 hb9 rfl (by omega) _ k _ rfl ((Hown.out.1.alloc _).alloc _) ⟨wr.heap.size + 1, 0, none⟩ 1 1 [.string nm] rfl rfl (cells_at _ [.string nm] _ _ (by simp)) ?c1 ?c2 ?c3 ?c4 ?_)
      case c1 => simp [Value.oneCell']
      case c2 => unfold maxLen; omega
      case c3 => omega
      case c4 => have := Hown.out.2; (try simp only [World.size_alloc]); omega
      intro v' w3 hown3 hg3 _ _
      have Hfin := hide ((Hst w3 v' _ _).out hown3 hg3)
      obtain ⟨nA, nc, rfl, _, _⟩ := own_form hown3
      clear Hst hown3 hg3 Hown hkc0 hkc1 hkc2 hkc3
      go_wp2_with fail
      exact ⟨by have := Hfin.out; exact this, by simp [intOf]; omega⟩
    · have hke : k = ts.length := by omega
      subst hke
      have hki1 : ¬ ((ts.length : Nat) : Int) < (ts.length : Int) := by omega
      rw [List.take_of_length_le (by rw [List.length_map]; omega)] at hown
      obtain ⟨oA, oc, rfl, hc1, hc2⟩ := own_form hown
      have hlo := hown.lt
      have hD := distinctAny_calls (keys := ts.map tname) (A := oA) (c := oc) (w := wr) (by rw [List.length_map]; unfold R47; omega) (by rw [List.length_map]; exact hc1) hc2 (by
        rw [List.length_map]
        exact Row.of_own hown fun b hb => (hlo b hb).2)
      rw [List.length_map] at hD
      have HD := hide hD
      have Hb := hide hb
      clear hown hb hbx hB hlo hc1 hc2 hD
      go_wp2_with fail
      refine HD.out.mono ?_
      rintro e w1 ⟨b, rfl, hbn, hb1⟩
      have Hfin := hide (And.intro hbn (Hb.out.trans (hb1.mono Hb.out.size)))
      clear hbn hb1
      go_wp2
      go_ret
      exact ⟨b, rfl, Hfin.out.1, Hfin.out.2⟩

set_option maxRecDepth 100000 in
theorem zzFits6_calls (TA : Option Addr) (n tc : Nat) (w : World) : Calls Try.prog 18 #[.agg #[.slice TA n tc]] w (AllPost True w) := by
  by_cases hn : n > 2147483647
  · have hni : (2147483647 : Int) < (n : Int) := by omega
    go_enter Try.func18, Try.ntmps18
    go_wp2
    go_ret
    exact ⟨false, rfl, fun _ => trivial, (Below.refl _ _).alloc (Nat.le_refl _) _⟩
  · have hni : ¬ (2147483647 : Int) < (n : Int) := by omega
    go_enter Try.func18, Try.ntmps18
    go_wp2
    go_ret
    exact ⟨true, rfl, fun _ => trivial, (Below.refl _ _).alloc (Nat.le_refl _) _⟩

end Go.Proofs.Ytekaainjpddklaa
