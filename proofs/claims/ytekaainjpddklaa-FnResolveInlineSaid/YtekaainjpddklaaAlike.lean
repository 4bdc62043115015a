/-
  Several texts in one: AlikeA, AlikeB, AlikeC, AlikeD, AlikeE, AlikeAtom.
-/
import Derived.Test.YtekaainjpddklaaSchFrom
import Derived.Test.YtekaainjpddklaaLaw
import Derived.Test.YtekaainjpddklaaSame
set_option linter.unusedVariables false
set_option linter.unusedSimpArgs false
/-!
  laws.firstList, laws.firstMap, laws.sameStrings.
-/

namespace Go.Proofs.Ytekaainjpddklaa
open Go.RowKit
attribute [local go_sem] run_store_float

def one (n : Nat) : Nat := if n = 0 then 0 else 1

set_option maxRecDepth 100000 in
theorem firstList_calls (sc : ByteArray) (LA MA : Option Addr) (ln lc mn mc : Nat) (w : World) (h1 : ln ≤ lc) (h2 : lc ≤ maxLen) (h3 : ln * 144 ≤ R47) :
    Calls Try.prog 69 #[.agg #[.string sc, .slice LA ln lc, .slice MA mn mc]] w fun e w' => e = .returned (.slice LA (one ln) lc) ∧ Below w.heap.size w w' := by
  have h2' : lc ≤ 9223372036854775807 := h2
  unfold R47 at h3
  by_cases hz : ln = 0
  · subst hz
    go_enter Try.func69, Try.ntmps69
    go_wp2
    go_ret
    exact ⟨rfl, (Below.refl _ _).alloc (Nat.le_refl _) _⟩
  · have e1 : one ln = 1 := if_neg hz
    rw [e1]
    have hk : ¬ (ln : Int) < 1 := by omega
    have hlc : (1 : Int) ≤ (lc : Int) := by omega
    go_enter Try.func69, Try.ntmps69
    go_wp2
    go_ret
    exact ⟨rfl, (Below.refl _ _).alloc (Nat.le_refl _) _⟩

set_option maxRecDepth 100000 in
theorem firstMap_calls (sc : ByteArray) (LA MA : Option Addr) (ln lc mn mc : Nat) (w : World) (h1 : mn ≤ mc) (h2 : mc ≤ maxLen) (h3 : mn * 144 ≤ R47) :
    Calls Try.prog 70 #[.agg #[.string sc, .slice LA ln lc, .slice MA mn mc]] w fun e w' => e = .returned (.slice MA (one mn) mc) ∧ Below w.heap.size w w' := by
  have h2' : mc ≤ 9223372036854775807 := h2
  unfold R47 at h3
  by_cases hz : mn = 0
  · subst hz
    go_enter Try.func70, Try.ntmps70
    go_wp2
    go_ret
    exact ⟨rfl, (Below.refl _ _).alloc (Nat.le_refl _) _⟩
  · have e1 : one mn = 1 := if_neg hz
    rw [e1]
    have hk : ¬ (mn : Int) < 1 := by omega
    have hlc : (1 : Int) ≤ (mc : Int) := by omega
    go_enter Try.func70, Try.ntmps70
    go_wp2
    go_ret
    exact ⟨rfl, (Below.refl _ _).alloc (Nat.le_refl _) _⟩

end Go.Proofs.Ytekaainjpddklaa

/-!
  laws.sameStrings of equal lists.
-/

namespace Go.Proofs.Ytekaainjpddklaa
open Go.RowKit
attribute [local go_sem] run_store_float

/-- at the head of a round of sameStrings -/
def SSInv (n : Nat) (W : World) (s : Value) (W' : World) : Prop := ∃ k : Nat, s = .int .i64 (k : Int) ∧ k ≤ n ∧ Below W.heap.size W W'

set_option maxRecDepth 100000 in
set_option maxHeartbeats 2000000 in
theorem sameStrings_calls {keys : List ByteArray} {A B : Option Addr} {c d : Nat} {w : World} (h16 : keys.length * 16 ≤ R47) (hA : Row (Old w) w 1 A keys.length (keys.map Value.string)) (hB : Row (Old w) w 1 B keys.length (keys.map Value.string)) :
    Calls Try.prog 103 #[.slice A keys.length c, .slice B keys.length d] w (LawPost w) := by
  have hn : keys.length ≤ 8796093022208 := by unfold R47 at h16; omega
  have HA := hide hA
  have HB := hide hB
  clear hA hB h16
  go_enter Try.func103, Try.ntmps103
  go_wp2_with fail
  go_loopw [13] (fun s W => SSInv keys.length w s W) (fun s _ => keys.length - (intOf s).toNat)
  case atStart => exact ⟨0, rfl, Nat.zero_le _, Below.refl _ _⟩
  case round =>
    obtain ⟨k, rfl, hk, hb⟩ := hrel
    by_cases hlt : k < keys.length
    · obtain ⟨b, o, rfl, hF, hc0⟩ := row1_at (u := .string keys[k]) HA.out hlt (by simp [hlt])
      obtain ⟨b', o', rfl, hF', hc1⟩ := row1_at (u := .string keys[k]) HB.out hlt (by simp [hlt])
      generalize keys[k] = x at *
      rw [← (bcell hb).1 _ _ hF] at hc0
      rw [← (bcell hb).1 _ _ hF'] at hc1
      have hki0 : (0 : Int) ≤ (k : Int) := Int.natCast_nonneg _
      have hki1 : (k : Int) < (keys.length : Int) := by omega
      have hst : (x.toList == x.toList) = true := by simp
      have Hb := hide hb
      clear hb hF hF'
      go_wp2_with fail
      go_quiet (fail)
      go_wp2_with fail
      exact ⟨⟨k + 1, by go_num, by omega, below_drewN Hb.out _⟩, by simp [intOf]; omega⟩
    · have hki2 : ¬ (k : Int) < (keys.length : Int) := by omega
      have Hb := hide hb
      clear hb
      go_wp2
      go_ret
      exact ⟨rfl, Hb.out⟩

end Go.Proofs.Ytekaainjpddklaa

/-!
  laws.defaultOf.
-/

namespace Go.Proofs.Ytekaainjpddklaa
open Go.RowKit

theorem run_kind0 (c0 c1 c2 c3 c4 c5 : Value) (w : World) : (Instr.field 26 (.agg #[c0, c1, c2, c3, c4, c5]) 0).run Try.prog w = .ok c0 w := by kernel_rfl
attribute [local go_sem] run_store_float run_kind0

theorem toRV_kind {t : T} {F : Nat → Prop} {w : World} {k : Int} {c1 c2 c3 c4 c5 : Value} (h : RVAt F w t.toRV [.int .i64 k, c1, c2, c3, c4, c5]) : (t = .null ∧ k = 0) ∨ (t ≠ .null ∧ ¬ k = 0) := by
  cases t with
  | null => rw [T.toRV] at h; cases h; exact .inl ⟨rfl, rfl⟩
  | bool b => rw [T.toRV] at h; cases h; exact .inr ⟨by simp, by decide⟩
  | int n => rw [T.toRV] at h; cases h; exact .inr ⟨by simp, by decide⟩
  | flt f => rw [T.toRV] at h; cases h; exact .inr ⟨by simp, by decide⟩
  | str s => rw [T.toRV] at h; cases h; exact .inr ⟨by simp, by decide⟩
  | list l => rw [T.toRV] at h; cases h; exact .inr ⟨by simp, by decide⟩
  | map l => rw [T.toRV] at h; cases h; exact .inr ⟨by simp, by decide⟩

/-- the slice that defaultOf hands back -/
def DefPost (d : T) (A : Option Addr) (c : Nat) (w : World) (e : Ending) (w' : World) : Prop := ((d = .null ∧ e = .returned (.slice none 0 0)) ∨ (d ≠ .null ∧ e = .returned (.slice A 1 c))) ∧ Below w.heap.size w w'

set_option maxRecDepth 100000 in
set_option maxHeartbeats 2000000 in
theorem defaultOf_calls {name : ByteArray} {t : S} {d : Option RV} {w : World} {c0 c1 c2 c3 c4 c5 c6 : Value} {A : Option Addr} {n c : Nat} (h : SAt (Old w) w .field (.field name t d) [c0, c1, c2, c3, c4, c5, c6, .slice A n c]) :
    Calls Try.prog 135 #[.agg #[c0, c1, c2, c3, c4, c5, c6, .slice A n c]] w (DefPost (dfl d) A c w) := by
  obtain ⟨f0, f1, f2, f3, f4, f5, f6, f7, f8, f9, fa, fb, fd, fe, e⟩ := h.field_form
  simp only [List.cons.injEq, and_true] at e
  obtain ⟨rfl, rfl, rfl, rfl, rfl, rfl, rfl, e⟩ := e
  cases h with
  | @field _ _ _ _ _ _ _ _ _ _ _ _ xs h1 h2 h3 h4 h5 h6 h7 h8 =>
  have h5' : c ≤ 9223372036854775807 := h5
  have h3' : n * 88 ≤ 140737488351232 := h3
  cases d with
  | none =>
    have hz := h6.2 rfl
    subst hz
    go_enter Try.func135, Try.ntmps135
    go_wp2
    go_ret
    exact ⟨.inl ⟨rfl, rfl⟩, (Below.refl _ _).alloc (Nat.le_refl _) _⟩
  | some rv =>
    have hn : ¬ n = 0 := fun e => by have := h6.1 e; cases this
    have hni : ¬ (n : Int) = 0 := by omega
    have hnb : ((n : Int) == 0) = false := by simpa using hni
    have hrv := h8 rv rfl
    obtain ⟨z0, z1, z2, z3, zA, zn, zc, yA, yn, yc, ez⟩ := hrv.form
    obtain ⟨kb, ko, rfl, hF, hc0, hc1, hc2, hc3, hc4, hc5⟩ := row6_at (k := 0) h7 (by omega) ((congrArg (List.take 6) (show xs.drop (0 * 6) = xs by simp)).trans ez)
    rw [ez] at hrv
    rw [Nat.zero_mul, Nat.add_zero] at hc0 hc1 hc2 hc3 hc4 hc5
    have hkb : kb < w.heap.size := hF
    have hn0 : (0 : Int) < (n : Int) := by omega
    have hn1 : (1 : Int) ≤ (c : Int) := by omega
    have HC := hide fun (W : World) (hb : Below w.heap.size w W) => clean_calls rv W _ (hrv.at_ hb)
    clear h1 h2 h3 h6 h7 h8 hrv ez hF
    go_enter Try.func135, Try.ntmps135
    go_wp2_with fail
    have hb0 : Below w.heap.size w (w.alloc (.cells #[.string name, .bool f1, .string f2, .string f3, .slice f4 f5 f6, .slice f7 f8 f9, .string fa, .slice (some ⟨kb, ko, none⟩) n c] 111)) := (Below.refl _ _).alloc (Nat.le_refl _) _
    have hB0 := Bk.new w 111 #[.string name, .bool f1, .string f2, .string f3, .slice f4 f5 f6, .slice f7 f8 f9, .string fa, .slice (some ⟨kb, ko, none⟩) n c]
    generalize World.alloc w _ = W at hb0 hB0 ⊢
    refine (HC.out W hb0).mono ?_
    rintro e w1 ⟨cs, rfl, hv, hb1⟩
    obtain ⟨d0, d1, d2, d3, dA, dn, dc, eA, en, ec, rfl⟩ := hv.form
    have hkd := toRV_kind hv
    have hB1 := hB0.below hb1 hB0.lt
    have q7 := hB1.cell 7
    simp at q7
    have Hb := hide (hb0.trans (hb1.mono hb0.size))
    clear hv hb0 hB0 hB1 hb1
    rcases hkd with ⟨hd, rfl⟩ | ⟨hd, hk⟩
    · go_wp2
      go_ret
      exact ⟨.inl ⟨hd, rfl⟩, Hb.out⟩
    · have hkb2 : (d0 == 0) = false := by simpa using hk
      go_wp2
      go_ret
      exact ⟨.inr ⟨hd, rfl⟩, Hb.out⟩

end Go.Proofs.Ytekaainjpddklaa

/-!
  laws.refsAlike, laws.fieldsAlike of references and fields that mean the same.
-/

namespace Go.Proofs.Ytekaainjpddklaa
open Go.RowKit
attribute [local go_sem] run_store_float

/-- the function that compares defaults -/
def SameF : Value := .func (.func 33) #[] #[]

def AlikeAtomOK (a : S) : Prop := ∀ (b : S) (w : World) (cs1 cs2 : List Value), a.plain = b.plain → SAt (Old w) w .atom a cs1 → SAt (Old w) w .atom b cs2 → Calls Try.prog 66 #[.agg cs1.toArray, .agg cs2.toArray, SameF] w (LawPost w)
def AlikeRefOK (a : S) : Prop := ∀ (b : S) (w : World) (cs1 cs2 : List Value), a.plain = b.plain → SAt (Old w) w .ref a cs1 → SAt (Old w) w .ref b cs2 → Calls Try.prog 104 #[.agg cs1.toArray, .agg cs2.toArray, SameF] w (LawPost w)
def AlikeFieldOK (a : S) : Prop := ∀ (b : S) (w : World) (cs1 cs2 : List Value), a.plain = b.plain → SAt (Old w) w .field a cs1 → SAt (Old w) w .field b cs2 → Calls Try.prog 105 #[.agg cs1.toArray, .agg cs2.toArray, SameF] w (LawPost w)

theorem nz_inj {a b : ByteArray} (h : nz a = nz b) : a = b := by
  unfold nz at h
  split at h <;> split at h
  · rename_i h1 h2; rw [h1, h2]
  · cases h
  · cases h
  · exact Option.some.inj h

set_option maxRecDepth 100000 in
set_option maxHeartbeats 2000000 in
theorem alikeRef_of {n1 : Bool} {nm r : ByteArray} {a : S} (ha : AlikeAtomOK a) : AlikeRefOK (.ref n1 nm a r) := by
  intro s w cs1 cs2 hp h1 h2
  cases h1 with
  | @ref _ _ _ _ a0 a1 a2 g1 g2 g3 =>
  cases h2 with
  | @ref n2 nm' r' a' c0 c1 c2 k1 k2 k3 =>
  obtain ⟨s0, s1, s2, s3, s4, s5, s6, e⟩ := g3.atom_form
  simp only [List.cons.injEq, and_true] at e
  obtain ⟨rfl, rfl, rfl⟩ := e
  obtain ⟨t0, t1, t2, t3, t4, t5, t6, e⟩ := k3.atom_form
  simp only [List.cons.injEq, and_true] at e
  obtain ⟨rfl, rfl, rfl⟩ := e
  rw [S.plain, S.plain] at hp
  have st := Q2.made w 51 51 #[.bool n1, .string nm, .string s0, .slice s1 s2 s3, .slice s4 s5 s6, .string r] #[.bool n2, .string nm', .string t0, .slice t1 t2 t3, .slice t4 t5 t6, .string r']
  cases n1 <;> cases n2
  · rw [if_neg (by decide), if_neg (by decide)] at hp
    simp only [P.ref.injEq, true_and] at hp
    obtain ⟨hp1, hp2⟩ := hp
    have hr := nz_inj hp2
    subst hr
    have HA := hide fun (W : World) (hb : Below w.heap.size w W) => ha a' W _ _ hp1 (g3.at_ hb) (k3.at_ hb)
    have Hst := hide st
    have hst : (r.toList == r.toList) = true := by simp
    clear st g3 k3 g1 g2 k1 k2 hp1 hp2
    go_enter Try.func104, Try.ntmps104
    go_wp2_with fail
    refine (HA.out _ Hst.out.below).mono ?_
    rintro e w1 ⟨rfl, hb1⟩
    have Hb := hide (Hst.out.below.trans (hb1.mono Hst.out.below.size))
    clear hb1 Hst
    go_wp2
    go_ret
    exact ⟨rfl, Hb.out⟩
  · rw [if_neg (by decide), if_pos rfl] at hp
    simp at hp
  · rw [if_pos rfl, if_neg (by decide)] at hp
    simp at hp
  · rw [if_pos rfl, if_pos rfl] at hp
    simp only [P.ref.injEq, true_and, Option.some.injEq] at hp
    obtain ⟨hp1, hp2⟩ := hp
    have hr := nz_inj hp2
    subst hr hp1
    have Hst := hide st
    have hst : (r.toList == r.toList) = true := by simp
    have hst2 : (nm.toList == nm.toList) = true := by simp
    clear st g3 k3 g1 g2 k1 k2 hp2
    go_enter Try.func104, Try.ntmps104
    go_wp2
    go_ret
    exact ⟨rfl, Hst.out.below⟩

end Go.Proofs.Ytekaainjpddklaa

/-!
  laws.fieldsAlike of fields that mean the same.
-/

namespace Go.Proofs.Ytekaainjpddklaa
open Go.RowKit
attribute [local go_sem] run_store_float

set_option maxRecDepth 100000 in
set_option maxHeartbeats 4000000 in
theorem alikeField_of {nm : ByteArray} {t : Ytekaainjpddklaa.S} {d : Option RV} (ha : AlikeRefOK t) : AlikeFieldOK (.field nm t d) := by
  intro s w cs1 cs2 hp h1 h2
  have h1' := h1
  have h2' := h2
  cases h1 with
  | @field _ _ _ a0 a1 a2 a3 a4 a5 DA dn dc xs g1 g2 g3 g4 g5 g6 g7 g8 =>
  cases h2 with
  | @field nm' t' d' c0 c1 c2 c3 c4 c5 EA en ec ys k1 k2 k3 k4 k5 k6 k7 k8 =>
  rw [Ytekaainjpddklaa.S.plain, Ytekaainjpddklaa.S.plain] at hp
  simp only [P.field.injEq] at hp
  obtain ⟨rfl, hp1, hp2⟩ := hp
  obtain ⟨f1, f2, f3, f4, f5, f6, f7, f8, f9, fa, e⟩ := g2.ref_form
  simp only [List.cons.injEq, and_true] at e
  obtain ⟨rfl, rfl, rfl, rfl, rfl, rfl⟩ := e
  obtain ⟨e1, e2, e3, e4, e5, e6, e7, e8, e9, ea, e⟩ := k2.ref_form
  simp only [List.cons.injEq, and_true] at e
  obtain ⟨rfl, rfl, rfl, rfl, rfl, rfl⟩ := e
  have HA := hide fun (W : World) (hb : Below w.heap.size w W) => ha t' W _ _ hp1 (g2.at_ hb) (k2.at_ hb)
  have HD1 := hide fun (W : World) (hb : Below w.heap.size w W) => defaultOf_calls (h1'.at_ hb)
  have HD2 := hide fun (W : World) (hb : Below w.heap.size w W) => defaultOf_calls (h2'.at_ hb)
  have HS : dfl d ≠ .null → ∃ (r1 r2 : RV) (b1 o1 b2 o2 : Nat) (cs1 cs2 : List Value), DA = some ⟨b1, o1, none⟩ ∧ EA = some ⟨b2, o2, none⟩ ∧ b1 < w.heap.size ∧ b2 < w.heap.size ∧ RVAt (Old w) w r1 cs1 ∧ RVAt (Old w) w r2 cs2 ∧ r1.tree = r2.tree ∧ (∀ j u, cs1[j]? = some u → w.cell? ⟨b1, o1 + j, none⟩ = some u) ∧ (∀ j u, cs2[j]? = some u → w.cell? ⟨b2, o2 + j, none⟩ = some u) := by
    intro hne
    have hne2 := hne
    rw [hp2] at hne2
    obtain ⟨r1, rfl⟩ : ∃ r1, d = some r1 := by
      cases d with
      | none => exact absurd rfl hne
      | some r => exact ⟨r, rfl⟩
    obtain ⟨r2, rfl⟩ : ∃ r2, d' = some r2 := by
      cases d' with
      | none => exact absurd rfl hne2
      | some r => exact ⟨r, rfl⟩
    obtain ⟨b1, o1, rfl, hF1, hc1⟩ := rown_at (k := 0) (cs := xs.take 6) g7 (Nat.pos_of_ne_zero fun e => by cases g6.1 e) (congrArg (List.take 6) (show xs.drop (0 * 6) = xs by simp))
    obtain ⟨b2, o2, rfl, hF2, hc2⟩ := rown_at (k := 0) (cs := ys.take 6) k7 (Nat.pos_of_ne_zero fun e => by cases k6.1 e) (congrArg (List.take 6) (show ys.drop (0 * 6) = ys by simp))
    rw [Nat.zero_mul, Nat.add_zero] at hc1 hc2
    exact ⟨r1, r2, b1, o1, b2, o2, _, _, rfl, rfl, hF1, hF2, g8 r1 rfl, k8 r2 rfl, hp2, hc1, hc2⟩
  rw [← hp2] at HD2
  have st := Q2.made w 111 111 #[.string nm, .bool f1, .string f2, .string f3, .slice f4 f5 f6, .slice f7 f8 f9, .string fa, .slice DA dn dc] #[.string nm, .bool e1, .string e2, .string e3, .slice e4 e5 e6, .slice e7 e8 e9, .string ea, .slice EA en ec]
  have Hst := hide st
  have HSh := hide HS
  have hst : (nm.toList == nm.toList) = true := by simp
  clear st HS h1' h2' g1 g2 g3 g4 g5 g6 g7 g8 k1 k2 k3 k4 k5 k6 k7 k8 hp1 hp2
  go_enter Try.func105, Try.ntmps105
  go_upto_region 1 with fail
  have st := Hst.out
  clear Hst
  generalize World.alloc (World.alloc w _) _ = W at st ⊢
  have Hst := hide st
  have hS0 : Bk W.drew w.heap.size 111 #[.string nm, .bool f1, .string f2, .string f3, .slice f4 f5 f6, .slice f7 f8 f9, .string fa, .slice DA dn dc] ∧ Bk W.drew (w.heap.size + 1) 111 #[.string nm, .bool e1, .string e2, .string e3, .slice e4 e5 e6, .slice e7 e8 e9, .string ea, .slice EA en ec] := ⟨st.a, st.b⟩
  obtain ⟨S, hS⟩ : ∃ S, (fun W => Bk W w.heap.size 111 #[.string nm, .bool f1, .string f2, .string f3, .slice f4 f5 f6, .slice f7 f8 f9, .string fa, .slice DA dn dc] ∧ Bk W (w.heap.size + 1) 111 #[.string nm, .bool e1, .string e2, .string e3, .slice e4 e5 e6, .slice e7 e8 e9, .string ea, .slice EA en ec]) = S := ⟨_, rfl⟩
  have hS0 : S W.drew := by rw [← hS]; exact hS0
  clear st
  refine wp_region_head 4 S (by rfl) (by kernel_rfl) ?_
  refine HT.take 0 (v := ?_) rfl (by kernel_rfl) (fun _ _ _ h => h) (Or.inl ⟨by rfl, ?_⟩) (by assumption) ?_
  rotate_left
  · intro W hSw; rw [← hS] at hSw; have hSw := show Bk W w.heap.size 111 #[.string nm, .bool f1, .string f2, .string f3, .slice f4 f5 f6, .slice f7 f8 f9, .string fa, .slice DA dn dc] ∧ Bk W (w.heap.size + 1) 111 #[.string nm, .bool e1, .string e2, .string e3, .slice e4 e5 e6, .slice e7 e8 e9, .string ea, .slice EA en ec] from hSw; have s0 := hSw.1.cell 0; have s1 := hSw.1.cell 1; have s2 := hSw.1.cell 2; have s3 := hSw.1.cell 3; have s4 := hSw.1.cell 4; have s5 := hSw.1.cell 5; have s6 := hSw.1.cell 6; have s7 := hSw.1.cell 7; have t0 := hSw.2.cell 0; have t1 := hSw.2.cell 1; have t2 := hSw.2.cell 2; have t3 := hSw.2.cell 3; have t4 := hSw.2.cell 4; have t5 := hSw.2.cell 5; have t6 := hSw.2.cell 6; have t7 := hSw.2.cell 7; clear hSw; simp at s0 s1 s2 s3 s4 s5 s6 s7 t0 t1 t2 t3 t4 t5 t6 t7; go_simp; with_reducible rfl
  simp only [Act.put, List.setIfInBounds_toArray, List.set_cons_zero, List.set_cons_succ]
  refine HT.take 2 (v := ?_) rfl (by kernel_rfl) (fun _ _ _ h => h) (Or.inl ⟨by rfl, ?_⟩) (by assumption) ?_
  rotate_left
  · intro W hSw; rw [← hS] at hSw; have hSw := show Bk W w.heap.size 111 #[.string nm, .bool f1, .string f2, .string f3, .slice f4 f5 f6, .slice f7 f8 f9, .string fa, .slice DA dn dc] ∧ Bk W (w.heap.size + 1) 111 #[.string nm, .bool e1, .string e2, .string e3, .slice e4 e5 e6, .slice e7 e8 e9, .string ea, .slice EA en ec] from hSw; have s0 := hSw.1.cell 0; have s1 := hSw.1.cell 1; have s2 := hSw.1.cell 2; have s3 := hSw.1.cell 3; have s4 := hSw.1.cell 4; have s5 := hSw.1.cell 5; have s6 := hSw.1.cell 6; have s7 := hSw.1.cell 7; have t0 := hSw.2.cell 0; have t1 := hSw.2.cell 1; have t2 := hSw.2.cell 2; have t3 := hSw.2.cell 3; have t4 := hSw.2.cell 4; have t5 := hSw.2.cell 5; have t6 := hSw.2.cell 6; have t7 := hSw.2.cell 7; clear hSw; simp at s0 s1 s2 s3 s4 s5 s6 s7 t0 t1 t2 t3 t4 t5 t6 t7; go_simp; with_reducible rfl
  simp only [Act.put, List.setIfInBounds_toArray, List.set_cons_zero, List.set_cons_succ]
  refine HT.one 1 rfl (by kernel_rfl) (by rfl) (fun K hK => ?_)
  go_simp
  refine (HD1.out W.drew (below_drew Hst.out.below)).mono ?_
  rintro e w1 ⟨hd1, hb1⟩
  have hb1 : Below W.heap.size W w1 := below_drew' hb1
  have st1 := Hst.out.call hb1
  obtain ⟨v1, rfl, hv1⟩ : ∃ v1, e = .returned v1 ∧ ((dfl d = .null ∧ v1 = .slice none 0 0) ∨ (dfl d ≠ .null ∧ v1 = .slice DA 1 dc)) := by
    rcases hd1 with ⟨h, e⟩ | ⟨h, e⟩
    · exact ⟨_, e, .inl ⟨h, rfl⟩⟩
    · exact ⟨_, e, .inr ⟨h, rfl⟩⟩
  go_simp
  refine hK.out _ _ (by rw [← hS]; exact ⟨st1.a, st1.b⟩) ?_
  clear hK
  refine HT.one 3 rfl (by kernel_rfl) (by rfl) (fun K hK => ?_)
  go_simp
  refine (HD2.out w1 st1.below).mono ?_
  rintro e w2 ⟨hd2, hb2⟩
  have st2 := st1.call hb2
  obtain ⟨v2, rfl, hv2⟩ : ∃ v2, e = .returned v2 ∧ ((dfl d = .null ∧ v2 = .slice none 0 0) ∨ (dfl d ≠ .null ∧ v2 = .slice EA 1 ec)) := by
    rcases hd2 with ⟨h, e⟩ | ⟨h, e⟩
    · exact ⟨_, e, .inl ⟨h, rfl⟩⟩
    · exact ⟨_, e, .inr ⟨h, rfl⟩⟩
  go_simp
  refine hK.out _ _ (by rw [← hS]; exact ⟨st2.a, st2.b⟩) ?_
  clear hK
  refine HT.done (by kernel_rfl) ?_
  simp only [List.drop_succ_cons, List.drop_zero]
  clear hS0 hS hd1 hd2
  have hgl0 := st2.a.lt
  have hgl1 := st2.b.lt
  have q0 := st2.a.cell 0
  have q1 := st2.a.cell 1
  have q2 := st2.a.cell 2
  have q3 := st2.a.cell 3
  have q4 := st2.a.cell 4
  have q5 := st2.a.cell 5
  have q6 := st2.a.cell 6
  have q7 := st2.a.cell 7
  have k0 := st2.b.cell 0
  have k1 := st2.b.cell 1
  have k2 := st2.b.cell 2
  have k3 := st2.b.cell 3
  have k4 := st2.b.cell 4
  have k5 := st2.b.cell 5
  have k6 := st2.b.cell 6
  have k7 := st2.b.cell 7
  simp at q0 q1 q2 q3 q4 q5 q6 q7 k0 k1 k2 k3 k4 k5 k6 k7
  have H2 := hide st2
  clear st1 st2 hb1 hb2 Hst
  by_cases hn : dfl d = .null
  · obtain rfl : v1 = .slice none 0 0 := by rcases hv1 with ⟨-, h⟩ | ⟨h, -⟩ <;> first | exact h | exact absurd hn h
    obtain rfl : v2 = .slice none 0 0 := by rcases hv2 with ⟨-, h⟩ | ⟨h, -⟩ <;> first | exact h | exact absurd hn h
    clear hv1 hv2 hn
    go_wp2_with fail
    refine (HA.out _ H2.out.below).mono ?_
    rintro e w3 ⟨rfl, hb3⟩
    have Hb := hide (H2.out.below.trans (hb3.mono H2.out.below.size))
    clear hb3 q0 q1 q2 q3 q4 q5 q6 q7 k0 k1 k2 k3 k4 k5 k6 k7 H2
    go_wp2_with fail
    have hS0 : True := trivial
    refine wp_region_head 12 (fun _ => True) (by rfl) (by kernel_rfl) ?_
    refine HT.take 0 (v := ?_) rfl (by kernel_rfl) (fun _ _ _ h => h) (Or.inl ⟨by rfl, ?_⟩) (by assumption) ?_
    rotate_left
    · intro W hSw; go_simp; with_reducible rfl
    simp only [Act.put, List.setIfInBounds_toArray, List.set_cons_zero, List.set_cons_succ]
    refine HT.take 1 (v := ?_) rfl (by kernel_rfl) (fun _ _ _ h => h) (Or.inl ⟨by rfl, ?_⟩) (by assumption) ?_
    rotate_left
    · intro W hSw; go_simp; with_reducible rfl
    simp only [Act.put, List.setIfInBounds_toArray, List.set_cons_zero, List.set_cons_succ]
    refine HT.take 2 (v := ?_) rfl (by kernel_rfl) (fun _ _ _ h => h) (Or.inl ⟨by rfl, ?_⟩) (by assumption) ?_
    rotate_left
    · intro W hSw; go_simp; with_reducible rfl
    simp only [Act.put, List.setIfInBounds_toArray, List.set_cons_zero, List.set_cons_succ]
    refine HT.take 3 (v := ?_) rfl (by kernel_rfl) (fun _ _ _ h => h) (Or.inl ⟨by rfl, ?_⟩) (by assumption) ?_
    rotate_left
    · intro W hSw; go_simp; with_reducible rfl
    simp only [Act.put, List.setIfInBounds_toArray, List.set_cons_zero, List.set_cons_succ]
    refine HT.take 4 (v := undef) rfl (by kernel_rfl) (fun _ _ _ h => h) (Or.inr ⟨by rfl, rfl⟩) (by assumption) ?_
    simp only [Act.put, List.setIfInBounds_toArray, List.set_cons_zero, List.set_cons_succ]
    refine HT.take 5 (v := undef) rfl (by kernel_rfl) (fun _ _ _ h => h) (Or.inr ⟨by rfl, rfl⟩) (by assumption) ?_
    simp only [Act.put, List.setIfInBounds_toArray, List.set_cons_zero, List.set_cons_succ]
    refine HT.take 6 (v := undef) rfl (by kernel_rfl) (fun _ _ _ h => h) (Or.inr ⟨by rfl, rfl⟩) (by assumption) ?_
    simp only [Act.put, List.setIfInBounds_toArray, List.set_cons_zero, List.set_cons_succ]
    refine HT.take 7 (v := undef) rfl (by kernel_rfl) (fun _ _ _ h => h) (Or.inr ⟨by rfl, rfl⟩) (by assumption) ?_
    simp only [Act.put, List.setIfInBounds_toArray, List.set_cons_zero, List.set_cons_succ]
    refine HT.take 8 (v := undef) rfl (by kernel_rfl) (fun _ _ _ h => h) (Or.inr ⟨by rfl, rfl⟩) (by assumption) ?_
    simp only [Act.put, List.setIfInBounds_toArray, List.set_cons_zero, List.set_cons_succ]
    refine HT.take 9 (v := undef) rfl (by kernel_rfl) (fun _ _ _ h => h) (Or.inr ⟨by rfl, rfl⟩) (by assumption) ?_
    simp only [Act.put, List.setIfInBounds_toArray, List.set_cons_zero, List.set_cons_succ]
    refine HT.take 10 (v := undef) rfl (by kernel_rfl) (fun _ _ _ h => h) (Or.inr ⟨by rfl, rfl⟩) (by assumption) ?_
    simp only [Act.put, List.setIfInBounds_toArray, List.set_cons_zero, List.set_cons_succ]
    refine HT.take 11 (v := undef) rfl (by kernel_rfl) (fun _ _ _ h => h) (Or.inr ⟨by rfl, rfl⟩) (by assumption) ?_
    simp only [Act.put, List.setIfInBounds_toArray, List.set_cons_zero, List.set_cons_succ]
    refine HT.done (by kernel_rfl) ?_
    simp only [List.drop_succ_cons, List.drop_zero]
    go_wp2
    go_ret
    exact ⟨rfl, below_drew Hb.out⟩
  · obtain rfl : v1 = .slice DA 1 dc := by rcases hv1 with ⟨h, -⟩ | ⟨-, h⟩ <;> first | exact h | exact absurd h hn
    obtain rfl : v2 = .slice EA 1 ec := by rcases hv2 with ⟨h, -⟩ | ⟨-, h⟩ <;> first | exact h | exact absurd h hn
    obtain ⟨r1, r2, b1, o1, b2, o2, rs1, rs2, rfl, rfl, hl1, hl2, hr1, hr2, hrr, hc1, hc2⟩ := HSh.out hn
    obtain ⟨y0, y1, y2, y3, yA, yn, yc, yB, ym, yd, rfl⟩ := hr1.form
    obtain ⟨z0, z1, z2, z3, zA, zn, zc, zB, zm, zd, rfl⟩ := hr2.form
    have HV := hide fun (W : World) (hb : Below w.heap.size w W) => sameValue_calls r1 r2 hrr W _ _ (hr1.at_ hb) (hr2.at_ hb)
    have HC := hide (And.intro hc1 hc2)
    clear hv1 hv2 hn hr1 hr2 hrr hc1 hc2
    go_wp2_with fail
    refine (HA.out _ H2.out.below).mono ?_
    rintro e w3 ⟨rfl, hb3⟩
    have hbw := H2.out.below.trans (hb3.mono H2.out.below.size)
    have ec1 := (bcell hbw).1
    have hS0 : (∀ j u, ([.int .i64 y0, .int .i64 y1, .float .f64 y2, .string y3, .slice yA yn yc, .slice yB ym yd] : List Value)[j]? = some u → w3.drew.cell? ⟨b1, o1 + j, none⟩ = some u) ∧ (∀ j u, ([.int .i64 z0, .int .i64 z1, .float .f64 z2, .string z3, .slice zA zn zc, .slice zB zm zd] : List Value)[j]? = some u → w3.drew.cell? ⟨b2, o2 + j, none⟩ = some u) :=
      ⟨fun j u h => (ec1 _ _ hl1).trans (HC.out.1 j u h), fun j u h => (ec1 _ _ hl2).trans (HC.out.2 j u h)⟩
    have Hb := hide hbw
    clear hb3 hbw ec1 q0 q1 q2 q3 q4 q5 q6 q7 k0 k1 k2 k3 k4 k5 k6 k7
    go_wp2_with fail
    obtain ⟨S, hS⟩ : ∃ S : World → Prop, (fun W => (∀ j u, ([.int .i64 y0, .int .i64 y1, .float .f64 y2, .string y3, .slice yA yn yc, .slice yB ym yd] : List Value)[j]? = some u → W.cell? ⟨b1, o1 + j, none⟩ = some u) ∧ (∀ j u, ([.int .i64 z0, .int .i64 z1, .float .f64 z2, .string z3, .slice zA zn zc, .slice zB zm zd] : List Value)[j]? = some u → W.cell? ⟨b2, o2 + j, none⟩ = some u)) = S := ⟨_, rfl⟩
    have hS0' : _ ∧ _ := hS0
    have hS0 : S w3.drew := by rw [← hS]; exact hS0
    refine wp_region_head 12 S (by rfl) (by kernel_rfl) ?_
    refine HT.take 0 (v := ?_) rfl (by kernel_rfl) (fun _ _ _ h => h) (Or.inl ⟨by rfl, ?_⟩) (by assumption) ?_
    rotate_left
    · intro W hSw; rw [← hS] at hSw; have m0 := hSw.1 0 _ rfl; have m1 := hSw.1 1 _ rfl; have m2 := hSw.1 2 _ rfl; have m3 := hSw.1 3 _ rfl; have m4 := hSw.1 4 _ rfl; have m5 := hSw.1 5 _ rfl; have p0 := hSw.2 0 _ rfl; have p1 := hSw.2 1 _ rfl; have p2 := hSw.2 2 _ rfl; have p3 := hSw.2 3 _ rfl; have p4 := hSw.2 4 _ rfl; have p5 := hSw.2 5 _ rfl; clear hSw; simp only [Nat.add_zero] at m0 p0; go_simp; with_reducible rfl
    simp only [Act.put, List.setIfInBounds_toArray, List.set_cons_zero, List.set_cons_succ]
    refine HT.take 1 (v := ?_) rfl (by kernel_rfl) (fun _ _ _ h => h) (Or.inl ⟨by rfl, ?_⟩) (by assumption) ?_
    rotate_left
    · intro W hSw; rw [← hS] at hSw; have m0 := hSw.1 0 _ rfl; have m1 := hSw.1 1 _ rfl; have m2 := hSw.1 2 _ rfl; have m3 := hSw.1 3 _ rfl; have m4 := hSw.1 4 _ rfl; have m5 := hSw.1 5 _ rfl; have p0 := hSw.2 0 _ rfl; have p1 := hSw.2 1 _ rfl; have p2 := hSw.2 2 _ rfl; have p3 := hSw.2 3 _ rfl; have p4 := hSw.2 4 _ rfl; have p5 := hSw.2 5 _ rfl; clear hSw; simp only [Nat.add_zero] at m0 p0; go_simp; with_reducible rfl
    simp only [Act.put, List.setIfInBounds_toArray, List.set_cons_zero, List.set_cons_succ]
    refine HT.take 2 (v := ?_) rfl (by kernel_rfl) (fun _ _ _ h => h) (Or.inl ⟨by rfl, ?_⟩) (by assumption) ?_
    rotate_left
    · intro W hSw; rw [← hS] at hSw; have m0 := hSw.1 0 _ rfl; have m1 := hSw.1 1 _ rfl; have m2 := hSw.1 2 _ rfl; have m3 := hSw.1 3 _ rfl; have m4 := hSw.1 4 _ rfl; have m5 := hSw.1 5 _ rfl; have p0 := hSw.2 0 _ rfl; have p1 := hSw.2 1 _ rfl; have p2 := hSw.2 2 _ rfl; have p3 := hSw.2 3 _ rfl; have p4 := hSw.2 4 _ rfl; have p5 := hSw.2 5 _ rfl; clear hSw; simp only [Nat.add_zero] at m0 p0; go_simp; with_reducible rfl
    simp only [Act.put, List.setIfInBounds_toArray, List.set_cons_zero, List.set_cons_succ]
    refine HT.take 3 (v := ?_) rfl (by kernel_rfl) (fun _ _ _ h => h) (Or.inl ⟨by rfl, ?_⟩) (by assumption) ?_
    rotate_left
    · intro W hSw; rw [← hS] at hSw; have m0 := hSw.1 0 _ rfl; have m1 := hSw.1 1 _ rfl; have m2 := hSw.1 2 _ rfl; have m3 := hSw.1 3 _ rfl; have m4 := hSw.1 4 _ rfl; have m5 := hSw.1 5 _ rfl; have p0 := hSw.2 0 _ rfl; have p1 := hSw.2 1 _ rfl; have p2 := hSw.2 2 _ rfl; have p3 := hSw.2 3 _ rfl; have p4 := hSw.2 4 _ rfl; have p5 := hSw.2 5 _ rfl; clear hSw; simp only [Nat.add_zero] at m0 p0; go_simp; with_reducible rfl
    simp only [Act.put, List.setIfInBounds_toArray, List.set_cons_zero, List.set_cons_succ]
    refine HT.take 4 (v := ?_) rfl (by kernel_rfl) (fun _ _ _ h => h) (Or.inl ⟨by rfl, ?_⟩) (by assumption) ?_
    rotate_left
    · intro W hSw; rw [← hS] at hSw; have m0 := hSw.1 0 _ rfl; have m1 := hSw.1 1 _ rfl; have m2 := hSw.1 2 _ rfl; have m3 := hSw.1 3 _ rfl; have m4 := hSw.1 4 _ rfl; have m5 := hSw.1 5 _ rfl; have p0 := hSw.2 0 _ rfl; have p1 := hSw.2 1 _ rfl; have p2 := hSw.2 2 _ rfl; have p3 := hSw.2 3 _ rfl; have p4 := hSw.2 4 _ rfl; have p5 := hSw.2 5 _ rfl; clear hSw; simp only [Nat.add_zero] at m0 p0; go_simp; with_reducible rfl
    simp only [Act.put, List.setIfInBounds_toArray, List.set_cons_zero, List.set_cons_succ]
    refine HT.take 5 (v := ?_) rfl (by kernel_rfl) (fun _ _ _ h => h) (Or.inl ⟨by rfl, ?_⟩) (by assumption) ?_
    rotate_left
    · intro W hSw; rw [← hS] at hSw; have m0 := hSw.1 0 _ rfl; have m1 := hSw.1 1 _ rfl; have m2 := hSw.1 2 _ rfl; have m3 := hSw.1 3 _ rfl; have m4 := hSw.1 4 _ rfl; have m5 := hSw.1 5 _ rfl; have p0 := hSw.2 0 _ rfl; have p1 := hSw.2 1 _ rfl; have p2 := hSw.2 2 _ rfl; have p3 := hSw.2 3 _ rfl; have p4 := hSw.2 4 _ rfl; have p5 := hSw.2 5 _ rfl; clear hSw; simp only [Nat.add_zero] at m0 p0; go_simp; with_reducible rfl
    simp only [Act.put, List.setIfInBounds_toArray, List.set_cons_zero, List.set_cons_succ]
    refine HT.take 6 (v := ?_) rfl (by kernel_rfl) (fun _ _ _ h => h) (Or.inl ⟨by rfl, ?_⟩) (by assumption) ?_
    rotate_left
    · intro W hSw; rw [← hS] at hSw; have m0 := hSw.1 0 _ rfl; have m1 := hSw.1 1 _ rfl; have m2 := hSw.1 2 _ rfl; have m3 := hSw.1 3 _ rfl; have m4 := hSw.1 4 _ rfl; have m5 := hSw.1 5 _ rfl; have p0 := hSw.2 0 _ rfl; have p1 := hSw.2 1 _ rfl; have p2 := hSw.2 2 _ rfl; have p3 := hSw.2 3 _ rfl; have p4 := hSw.2 4 _ rfl; have p5 := hSw.2 5 _ rfl; clear hSw; simp only [Nat.add_zero] at m0 p0; go_simp; with_reducible rfl
    simp only [Act.put, List.setIfInBounds_toArray, List.set_cons_zero, List.set_cons_succ]
    refine HT.take 7 (v := ?_) rfl (by kernel_rfl) (fun _ _ _ h => h) (Or.inl ⟨by rfl, ?_⟩) (by assumption) ?_
    rotate_left
    · intro W hSw; rw [← hS] at hSw; have m0 := hSw.1 0 _ rfl; have m1 := hSw.1 1 _ rfl; have m2 := hSw.1 2 _ rfl; have m3 := hSw.1 3 _ rfl; have m4 := hSw.1 4 _ rfl; have m5 := hSw.1 5 _ rfl; have p0 := hSw.2 0 _ rfl; have p1 := hSw.2 1 _ rfl; have p2 := hSw.2 2 _ rfl; have p3 := hSw.2 3 _ rfl; have p4 := hSw.2 4 _ rfl; have p5 := hSw.2 5 _ rfl; clear hSw; simp only [Nat.add_zero] at m0 p0; go_simp; with_reducible rfl
    simp only [Act.put, List.setIfInBounds_toArray, List.set_cons_zero, List.set_cons_succ]
    refine HT.take 8 (v := ?_) rfl (by kernel_rfl) (fun _ _ _ h => h) (Or.inl ⟨by rfl, ?_⟩) (by assumption) ?_
    rotate_left
    · intro W hSw; rw [← hS] at hSw; have m0 := hSw.1 0 _ rfl; have m1 := hSw.1 1 _ rfl; have m2 := hSw.1 2 _ rfl; have m3 := hSw.1 3 _ rfl; have m4 := hSw.1 4 _ rfl; have m5 := hSw.1 5 _ rfl; have p0 := hSw.2 0 _ rfl; have p1 := hSw.2 1 _ rfl; have p2 := hSw.2 2 _ rfl; have p3 := hSw.2 3 _ rfl; have p4 := hSw.2 4 _ rfl; have p5 := hSw.2 5 _ rfl; clear hSw; simp only [Nat.add_zero] at m0 p0; go_simp; with_reducible rfl
    simp only [Act.put, List.setIfInBounds_toArray, List.set_cons_zero, List.set_cons_succ]
    refine HT.take 9 (v := ?_) rfl (by kernel_rfl) (fun _ _ _ h => h) (Or.inl ⟨by rfl, ?_⟩) (by assumption) ?_
    rotate_left
    · intro W hSw; rw [← hS] at hSw; have m0 := hSw.1 0 _ rfl; have m1 := hSw.1 1 _ rfl; have m2 := hSw.1 2 _ rfl; have m3 := hSw.1 3 _ rfl; have m4 := hSw.1 4 _ rfl; have m5 := hSw.1 5 _ rfl; have p0 := hSw.2 0 _ rfl; have p1 := hSw.2 1 _ rfl; have p2 := hSw.2 2 _ rfl; have p3 := hSw.2 3 _ rfl; have p4 := hSw.2 4 _ rfl; have p5 := hSw.2 5 _ rfl; clear hSw; simp only [Nat.add_zero] at m0 p0; go_simp; with_reducible rfl
    simp only [Act.put, List.setIfInBounds_toArray, List.set_cons_zero, List.set_cons_succ]
    refine HT.take 10 (v := ?_) rfl (by kernel_rfl) (fun _ _ _ h => h) (Or.inl ⟨by rfl, ?_⟩) (by assumption) ?_
    rotate_left
    · intro W hSw; rw [← hS] at hSw; have m0 := hSw.1 0 _ rfl; have m1 := hSw.1 1 _ rfl; have m2 := hSw.1 2 _ rfl; have m3 := hSw.1 3 _ rfl; have m4 := hSw.1 4 _ rfl; have m5 := hSw.1 5 _ rfl; have p0 := hSw.2 0 _ rfl; have p1 := hSw.2 1 _ rfl; have p2 := hSw.2 2 _ rfl; have p3 := hSw.2 3 _ rfl; have p4 := hSw.2 4 _ rfl; have p5 := hSw.2 5 _ rfl; clear hSw; simp only [Nat.add_zero] at m0 p0; go_simp; with_reducible rfl
    simp only [Act.put, List.setIfInBounds_toArray, List.set_cons_zero, List.set_cons_succ]
    refine HT.one 11 rfl (by kernel_rfl) (by rfl) (fun K hK => ?_)
    unfold SameF
    go_simp
    refine (HV.out w3.drew (below_drew Hb.out)).mono ?_
    rintro e w4 ⟨rfl, hb4⟩
    have hb4 : Below w3.heap.size w3 w4 := below_drew' hb4
    have hbs := Hb.out.size
    go_simp
    refine hK.out _ _ (by rw [← hS]; exact ⟨fun j u h => ((bcell hb4).1 _ _ (by omega)).trans (hS0'.1 j u h), fun j u h => ((bcell hb4).1 _ _ (by omega)).trans (hS0'.2 j u h)⟩) ?_
    clear hK
    refine HT.done (by kernel_rfl) ?_
    simp only [List.drop_succ_cons, List.drop_zero]
    have Hb4 := hide (Hb.out.trans (hb4.mono Hb.out.size))
    clear hb4 hS0 hS hS0'
    go_wp2
    go_ret
    exact ⟨rfl, Hb4.out⟩

end Go.Proofs.Ytekaainjpddklaa

/-!
  laws.atomsAlike of types that mean the same; laws.sameAtom.
-/

namespace Go.Proofs.Ytekaainjpddklaa
open Go.RowKit
attribute [local go_sem] run_store_float

theorem one_eq {n m : Nat} (h : n = 0 ↔ m = 0) : one n = one m := by
  unfold one
  by_cases hn : n = 0
  · rw [if_pos hn, if_pos (h.1 hn)]
  · rw [if_neg hn, if_neg fun e => hn (h.2 e)]
theorem one_le (n : Nat) : one n ≤ 1 := by unfold one; split <;> omega

/-- at the head of a round of a loop over at most one item -/
def AAInv (n : Nat) (W : World) (s : Value) (W' : World) : Prop := ∃ k : Nat, s = .int .i64 (k : Int) ∧ k ≤ n ∧ Below W.heap.size W W'

set_option maxRecDepth 100000 in
set_option maxHeartbeats 8000000 in
theorem alikeAtom_of {sc : ByteArray} {l m : Option Ytekaainjpddklaa.S} (hl : ∀ e rel keys, l = some (.list e rel keys) → AlikeRefOK e) (hm : ∀ fs e rel, m = some (.map fs e rel) → AlikeRefOK e ∧ ∀ x ∈ fs, AlikeFieldOK x) : AlikeAtomOK (.atom sc l m) := by
  intro s w cs1 cs2 hp h1 h2
  cases h1 with
  | @atom _ _ _ LA MA ln lc mn mc xs ys g1 g2 g3 g4 g5 g6 g7 g8 g9 g10 g11 g12 g13 =>
  cases h2 with
  | @atom sc2 l2 m2 LB MB ln2 lc2 mn2 mc2 xs2 ys2 k1 k2 k3 k4 k5 k6 k7 k8 k9 k10 k11 k12 k13 =>
  rw [Ytekaainjpddklaa.S.plain_atom, Ytekaainjpddklaa.S.plain_atom] at hp
  simp only [P.atom.injEq] at hp
  obtain ⟨hp1, hp2, hp3⟩ := hp
  have hs := nz_inj hp1
  subst hs
  have hln : ln = 0 ↔ ln2 = 0 := by
    rw [g8, k8]
    cases l <;> cases l2 <;> simp at hp2 ⊢
  have hmn : mn = 0 ↔ mn2 = 0 := by
    rw [g9, k9]
    cases m <;> cases m2 <;> simp at hp3 ⊢
  have HF1 := hide fun (W : World) => firstList_calls sc LA MA ln lc mn mc W g3 g4 g2
  have HF2 := hide fun (W : World) => firstList_calls sc LB MB ln2 lc2 mn2 mc2 W k3 k4 k2
  have HF3 := hide fun (W : World) => firstMap_calls sc LA MA ln lc mn mc W g6 g7 g5
  have HF4 := hide fun (W : World) => firstMap_calls sc LB MB ln2 lc2 mn2 mc2 W k6 k7 k5
  rw [← one_eq hln] at HF2
  rw [← one_eq hmn] at HF4
  have HL := hide (And.intro g10 (And.intro k10 (And.intro g12 (And.intro k12 (And.intro hp2 (And.intro hl (And.intro g8 k8)))))))
  have HM := hide (And.intro g11 (And.intro k11 (And.intro g13 (And.intro k13 (And.intro hp3 (And.intro hm (And.intro g9 k9)))))))
  have hol := one_le ln
  have hom := one_le mn
  have hzl : one ln = 1 → ¬ ln = 0 := fun h e => by rw [e] at h; cases h
  have hzm : one mn = 1 → ¬ mn = 0 := fun h e => by rw [e] at h; cases h
  have Hz := hide (And.intro hzl hzm)
  have hst : (sc.toList == sc.toList) = true := by simp
  have g3' : ln2 = 0 ∨ 0 < ln2 := by omega
  have Hln := hide (And.intro hln hmn)
  clear hp1 hp2 hp3 hl hm g1 g2 g3 g4 g5 g6 g7 g8 g9 g10 g11 g12 g13 k1 k2 k3 k4 k5 k6 k7 k8 k9 k10 k11 k12 k13 hln hmn hzl hzm g3'
  generalize hy1 : one ln = y1 at *
  generalize hy2 : one mn = y2 at *
  have Hy := hide (And.intro hy1 hy2)
  clear hy1 hy2
  go_enter Try.func66, Try.ntmps66
  go_upto_region 1 with fail
  have st := Q2.made w 38 38 #[.string sc, .slice LA ln lc, .slice MA mn mc] #[.string sc, .slice LB ln2 lc2, .slice MB mn2 mc2]
  generalize World.alloc (World.alloc w _) _ = W at st ⊢
  have Hst := hide st
  have hS0 : Bk W.drew w.heap.size 38 #[.string sc, .slice LA ln lc, .slice MA mn mc] ∧ Bk W.drew (w.heap.size + 1) 38 #[.string sc, .slice LB ln2 lc2, .slice MB mn2 mc2] := ⟨st.a, st.b⟩
  obtain ⟨S, hS⟩ : ∃ S, (fun W => Bk W w.heap.size 38 #[.string sc, .slice LA ln lc, .slice MA mn mc] ∧ Bk W (w.heap.size + 1) 38 #[.string sc, .slice LB ln2 lc2, .slice MB mn2 mc2]) = S := ⟨_, rfl⟩
  have hS0 : S W.drew := by rw [← hS]; exact hS0
  clear st
  refine wp_region_head 8 S (by rfl) (by kernel_rfl) ?_
  refine HT.take 0 (v := ?_) rfl (by kernel_rfl) (fun _ _ _ h => h) (Or.inl ⟨by rfl, ?_⟩) (by assumption) ?_
  rotate_left
  · intro W hSw; rw [← hS] at hSw; have hSw := show Bk W w.heap.size 38 #[.string sc, .slice LA ln lc, .slice MA mn mc] ∧ Bk W (w.heap.size + 1) 38 #[.string sc, .slice LB ln2 lc2, .slice MB mn2 mc2] from hSw; have s0 := hSw.1.cell 0; have t0 := hSw.2.cell 0; have s1 := hSw.1.cell 1; have t1 := hSw.2.cell 1; have s2 := hSw.1.cell 2; have t2 := hSw.2.cell 2; clear hSw; simp at s0 s1 s2 t0 t1 t2; go_simp; with_reducible rfl
  simp only [Act.put, List.setIfInBounds_toArray, List.set_cons_zero, List.set_cons_succ]
  refine HT.take 2 (v := ?_) rfl (by kernel_rfl) (fun _ _ _ h => h) (Or.inl ⟨by rfl, ?_⟩) (by assumption) ?_
  rotate_left
  · intro W hSw; rw [← hS] at hSw; have hSw := show Bk W w.heap.size 38 #[.string sc, .slice LA ln lc, .slice MA mn mc] ∧ Bk W (w.heap.size + 1) 38 #[.string sc, .slice LB ln2 lc2, .slice MB mn2 mc2] from hSw; have s0 := hSw.1.cell 0; have t0 := hSw.2.cell 0; have s1 := hSw.1.cell 1; have t1 := hSw.2.cell 1; have s2 := hSw.1.cell 2; have t2 := hSw.2.cell 2; clear hSw; simp at s0 s1 s2 t0 t1 t2; go_simp; with_reducible rfl
  simp only [Act.put, List.setIfInBounds_toArray, List.set_cons_zero, List.set_cons_succ]
  refine HT.take 4 (v := ?_) rfl (by kernel_rfl) (fun _ _ _ h => h) (Or.inl ⟨by rfl, ?_⟩) (by assumption) ?_
  rotate_left
  · intro W hSw; rw [← hS] at hSw; have hSw := show Bk W w.heap.size 38 #[.string sc, .slice LA ln lc, .slice MA mn mc] ∧ Bk W (w.heap.size + 1) 38 #[.string sc, .slice LB ln2 lc2, .slice MB mn2 mc2] from hSw; have s0 := hSw.1.cell 0; have t0 := hSw.2.cell 0; have s1 := hSw.1.cell 1; have t1 := hSw.2.cell 1; have s2 := hSw.1.cell 2; have t2 := hSw.2.cell 2; clear hSw; simp at s0 s1 s2 t0 t1 t2; go_simp; with_reducible rfl
  simp only [Act.put, List.setIfInBounds_toArray, List.set_cons_zero, List.set_cons_succ]
  refine HT.take 6 (v := ?_) rfl (by kernel_rfl) (fun _ _ _ h => h) (Or.inl ⟨by rfl, ?_⟩) (by assumption) ?_
  rotate_left
  · intro W hSw; rw [← hS] at hSw; have hSw := show Bk W w.heap.size 38 #[.string sc, .slice LA ln lc, .slice MA mn mc] ∧ Bk W (w.heap.size + 1) 38 #[.string sc, .slice LB ln2 lc2, .slice MB mn2 mc2] from hSw; have s0 := hSw.1.cell 0; have t0 := hSw.2.cell 0; have s1 := hSw.1.cell 1; have t1 := hSw.2.cell 1; have s2 := hSw.1.cell 2; have t2 := hSw.2.cell 2; clear hSw; simp at s0 s1 s2 t0 t1 t2; go_simp; with_reducible rfl
  simp only [Act.put, List.setIfInBounds_toArray, List.set_cons_zero, List.set_cons_succ]
  refine HT.one 1 rfl (by kernel_rfl) (by rfl) (fun K hK => ?_)
  go_simp
  refine (HF1.out W.drew).mono ?_
  rintro e w1 ⟨rfl, hb1⟩
  have st1 := Hst.out.call (below_drew' hb1)
  go_simp
  refine hK.out _ _ (by rw [← hS]; exact ⟨st1.a, st1.b⟩) ?_
  clear hK
  refine HT.one 3 rfl (by kernel_rfl) (by rfl) (fun K hK => ?_)
  go_simp
  refine (HF2.out w1).mono ?_
  rintro e w2 ⟨rfl, hb2⟩
  have st2 := st1.call hb2
  go_simp
  refine hK.out _ _ (by rw [← hS]; exact ⟨st2.a, st2.b⟩) ?_
  clear hK
  refine HT.one 5 rfl (by kernel_rfl) (by rfl) (fun K hK => ?_)
  go_simp
  refine (HF3.out w2).mono ?_
  rintro e w3 ⟨rfl, hb3⟩
  have st3 := st2.call hb3
  go_simp
  refine hK.out _ _ (by rw [← hS]; exact ⟨st3.a, st3.b⟩) ?_
  clear hK
  refine HT.one 7 rfl (by kernel_rfl) (by rfl) (fun K hK => ?_)
  go_simp
  refine (HF4.out w3).mono ?_
  rintro e w4 ⟨rfl, hb4⟩
  have st4 := st3.call hb4
  go_simp
  refine hK.out _ _ (by rw [← hS]; exact ⟨st4.a, st4.b⟩) ?_
  clear hK
  refine HT.done (by kernel_rfl) ?_
  simp only [List.drop_succ_cons, List.drop_zero]
  clear hS0 hS
  have hgl0 := st4.a.lt
  have hgl1 := st4.b.lt
  have q0 := st4.a.cell 0
  have k0 := st4.b.cell 0
  simp at q0 k0
  have H4 := hide st4.below
  clear st1 st2 st3 st4 hb1 hb2 hb3 hb4 Hst HF1 HF2 HF3 HF4
  go_wp2_with fail
  go_loopw [43] (fun s W => AAInv y1 w4 s W) (fun s _ => y1 - (intOf s).toNat)
  case atStart => exact ⟨0, rfl, Nat.zero_le _, Below.refl _ _⟩
  case round =>
    obtain ⟨k, rfl, hk, hb⟩ := hrel
    by_cases hlt : k < y1
    · have hk0 : k = 0 := by omega
      have hki0 : (0 : Int) ≤ (k : Int) := Int.natCast_nonneg _
      have hki1 : (k : Int) < (y1 : Int) := by omega
      have hln0 := Hz.out.1 (by omega)
      obtain ⟨x, hx⟩ : ∃ x, l = some x := by
        cases hc : l with
        | none => exact absurd (HL.out.2.2.2.2.2.2.1.2 hc) hln0
        | some x => exact ⟨x, rfl⟩
      have hp2 := HL.out.2.2.2.2.1
      rw [hx] at hp2
      obtain ⟨x2, hx2⟩ : ∃ x2, l2 = some x2 := by
        cases hc : l2 with
        | none => rw [hc] at hp2; cases hp2
        | some x => exact ⟨x, rfl⟩
      rw [hx2] at hp2
      have hpp := Option.some.inj hp2
      have ha1 := HL.out.2.2.1 x hx
      have ha2 := HL.out.2.2.2.1 x2 hx2
      have hd1 : (xs.drop (k * 8)).take 8 = xs.take 8 := by rw [hk0]; simp
      have hd2 : (xs2.drop (k * 8)).take 8 = xs2.take 8 := by rw [hk0]; simp
      have hln2 : ¬ ln2 = 0 := fun e => hln0 (Hln.out.1.2 e)
      obtain ⟨b1, o1, rfl, hF1, hc1⟩ := rown_at HL.out.1 (show k < ln by omega) hd1
      obtain ⟨b2, o2, rfl, hF2, hc2⟩ := rown_at HL.out.2.1 (show k < ln2 by omega) hd2
      rw [hk0, Nat.zero_mul, Nat.add_zero] at hc1 hc2
      generalize xs.take 8 = as1 at *
      generalize xs2.take 8 = as2 at *
      cases ha1 with
      | @list e rel keys a0 a1 a2 a3 a4 a5 KA kc u1 u2 u3 u4 u5 u6 u7 =>
      cases ha2 with
      | @list e' rel' keys' c0 c1 c2 c3 c4 c5 KB kd v1 v2 v3 v4 v5 v6 v7 =>
      rw [Ytekaainjpddklaa.S.plain, Ytekaainjpddklaa.S.plain] at hpp
      simp only [P.list.injEq] at hpp
      obtain ⟨hpe, rfl, rfl⟩ := hpp
      obtain ⟨f1, f2, f3, f4, f5, f6, f7, f8, f9, fa, ee⟩ := u1.ref_form
      simp only [List.cons.injEq, and_true] at ee
      obtain ⟨rfl, rfl, rfl, rfl, rfl, rfl⟩ := ee
      obtain ⟨e1, e2, e3, e4, e5, e6, e7, e8, e9, ea, ee⟩ := v1.ref_form
      simp only [List.cons.injEq, and_true] at ee
      obtain ⟨rfl, rfl, rfl, rfl, rfl, rfl⟩ := ee
      have hal := HL.out.2.2.2.2.2.1 e rel keys hx
      have HR := hide fun (W : World) (hb : Below w.heap.size w W) => hal e' W _ _ hpe (u1.at_ hb) (v1.at_ hb)
      have HQ := hide fun (W : World) (hb : Below w.heap.size w W) => sameStrings_calls (c := kc) (d := kd) u3 ((u7.keeps (Keeps.below hb fun _ h => h)).mono fun _ h => Nat.lt_of_lt_of_le h hb.size) ((v7.keeps (Keeps.below hb fun _ h => h)).mono fun _ h => Nat.lt_of_lt_of_le h hb.size)
      have HC := hide (And.intro hc1 hc2)
      have hbw := H4.out.trans (hb.mono H4.out.size)
      have hst2 : (rel.toList == rel.toList) = true := by simp
      have hl1 : b1 < w.heap.size := hF1
      have hl2 : b2 < w.heap.size := hF2
      have hS0 : (∀ j u, ([.bool f1, .string f2, .string f3, .slice f4 f5 f6, .slice f7 f8 f9, .string fa, .string rel, .slice KA keys.length kc] : List Value)[j]? = some u → wr.drew.cell? ⟨b1, o1 + j, none⟩ = some u) ∧ (∀ j u, ([.bool e1, .string e2, .string e3, .slice e4 e5 e6, .slice e7 e8 e9, .string ea, .string rel, .slice KB keys.length kd] : List Value)[j]? = some u → wr.drew.cell? ⟨b2, o2 + j, none⟩ = some u) :=
        ⟨fun j u h => ((bcell hbw).1 _ _ hl1).trans (HC.out.1 j u h), fun j u h => ((bcell hbw).1 _ _ hl2).trans (HC.out.2 j u h)⟩
      have Hb := hide (And.intro hbw hb)
      clear hb hbw hc1 hc2 hF1 hF2 u1 u2 u3 u4 u5 u6 u7 v1 v2 v3 v4 v5 v6 v7 hal hp2 hpe hd1 hd2 hx hx2
      go_wp2_with fail
      obtain ⟨S, hS⟩ : ∃ S : World → Prop, (fun W => (∀ j u, ([.bool f1, .string f2, .string f3, .slice f4 f5 f6, .slice f7 f8 f9, .string fa, .string rel, .slice KA keys.length kc] : List Value)[j]? = some u → W.cell? ⟨b1, o1 + j, none⟩ = some u) ∧ (∀ j u, ([.bool e1, .string e2, .string e3, .slice e4 e5 e6, .slice e7 e8 e9, .string ea, .string rel, .slice KB keys.length kd] : List Value)[j]? = some u → W.cell? ⟨b2, o2 + j, none⟩ = some u)) = S := ⟨_, rfl⟩
      have hS0 : S wr.drew := by rw [← hS]; exact hS0
      refine wp_region_head 38 S (by rfl) (by kernel_rfl) ?_
      refine HT.take 0 (v := ?_) rfl (by kernel_rfl) (fun _ _ _ h => h) (Or.inl ⟨by rfl, ?_⟩) (by assumption) ?_
      rotate_left
      · intro W hSw; rw [← hS] at hSw; have m0 := hSw.1 0 _ rfl; have m1 := hSw.1 1 _ rfl; have m2 := hSw.1 2 _ rfl; have m3 := hSw.1 3 _ rfl; have m4 := hSw.1 4 _ rfl; have m5 := hSw.1 5 _ rfl; have m6 := hSw.1 6 _ rfl; have m7 := hSw.1 7 _ rfl; have p0 := hSw.2 0 _ rfl; have p1 := hSw.2 1 _ rfl; have p2 := hSw.2 2 _ rfl; have p3 := hSw.2 3 _ rfl; have p4 := hSw.2 4 _ rfl; have p5 := hSw.2 5 _ rfl; have p6 := hSw.2 6 _ rfl; have p7 := hSw.2 7 _ rfl; clear hSw; simp only [Nat.add_zero] at m0 p0; go_simp; with_reducible rfl
      simp only [Act.put, List.setIfInBounds_toArray, List.set_cons_zero, List.set_cons_succ]
      refine HT.take 1 (v := ?_) rfl (by kernel_rfl) (fun _ _ _ h => h) (Or.inl ⟨by rfl, ?_⟩) (by assumption) ?_
      rotate_left
      · intro W hSw; rw [← hS] at hSw; have m0 := hSw.1 0 _ rfl; have m1 := hSw.1 1 _ rfl; have m2 := hSw.1 2 _ rfl; have m3 := hSw.1 3 _ rfl; have m4 := hSw.1 4 _ rfl; have m5 := hSw.1 5 _ rfl; have m6 := hSw.1 6 _ rfl; have m7 := hSw.1 7 _ rfl; have p0 := hSw.2 0 _ rfl; have p1 := hSw.2 1 _ rfl; have p2 := hSw.2 2 _ rfl; have p3 := hSw.2 3 _ rfl; have p4 := hSw.2 4 _ rfl; have p5 := hSw.2 5 _ rfl; have p6 := hSw.2 6 _ rfl; have p7 := hSw.2 7 _ rfl; clear hSw; simp only [Nat.add_zero] at m0 p0; go_simp; with_reducible rfl
      simp only [Act.put, List.setIfInBounds_toArray, List.set_cons_zero, List.set_cons_succ]
      refine HT.take 2 (v := ?_) rfl (by kernel_rfl) (fun _ _ _ h => h) (Or.inl ⟨by rfl, ?_⟩) (by assumption) ?_
      rotate_left
      · intro W hSw; rw [← hS] at hSw; have m0 := hSw.1 0 _ rfl; have m1 := hSw.1 1 _ rfl; have m2 := hSw.1 2 _ rfl; have m3 := hSw.1 3 _ rfl; have m4 := hSw.1 4 _ rfl; have m5 := hSw.1 5 _ rfl; have m6 := hSw.1 6 _ rfl; have m7 := hSw.1 7 _ rfl; have p0 := hSw.2 0 _ rfl; have p1 := hSw.2 1 _ rfl; have p2 := hSw.2 2 _ rfl; have p3 := hSw.2 3 _ rfl; have p4 := hSw.2 4 _ rfl; have p5 := hSw.2 5 _ rfl; have p6 := hSw.2 6 _ rfl; have p7 := hSw.2 7 _ rfl; clear hSw; simp only [Nat.add_zero] at m0 p0; go_simp; with_reducible rfl
      simp only [Act.put, List.setIfInBounds_toArray, List.set_cons_zero, List.set_cons_succ]
      refine HT.take 3 (v := ?_) rfl (by kernel_rfl) (fun _ _ _ h => h) (Or.inl ⟨by rfl, ?_⟩) (by assumption) ?_
      rotate_left
      · intro W hSw; rw [← hS] at hSw; have m0 := hSw.1 0 _ rfl; have m1 := hSw.1 1 _ rfl; have m2 := hSw.1 2 _ rfl; have m3 := hSw.1 3 _ rfl; have m4 := hSw.1 4 _ rfl; have m5 := hSw.1 5 _ rfl; have m6 := hSw.1 6 _ rfl; have m7 := hSw.1 7 _ rfl; have p0 := hSw.2 0 _ rfl; have p1 := hSw.2 1 _ rfl; have p2 := hSw.2 2 _ rfl; have p3 := hSw.2 3 _ rfl; have p4 := hSw.2 4 _ rfl; have p5 := hSw.2 5 _ rfl; have p6 := hSw.2 6 _ rfl; have p7 := hSw.2 7 _ rfl; clear hSw; simp only [Nat.add_zero] at m0 p0; go_simp; with_reducible rfl
      simp only [Act.put, List.setIfInBounds_toArray, List.set_cons_zero, List.set_cons_succ]
      refine HT.take 4 (v := ?_) rfl (by kernel_rfl) (fun _ _ _ h => h) (Or.inl ⟨by rfl, ?_⟩) (by assumption) ?_
      rotate_left
      · intro W hSw; rw [← hS] at hSw; have m0 := hSw.1 0 _ rfl; have m1 := hSw.1 1 _ rfl; have m2 := hSw.1 2 _ rfl; have m3 := hSw.1 3 _ rfl; have m4 := hSw.1 4 _ rfl; have m5 := hSw.1 5 _ rfl; have m6 := hSw.1 6 _ rfl; have m7 := hSw.1 7 _ rfl; have p0 := hSw.2 0 _ rfl; have p1 := hSw.2 1 _ rfl; have p2 := hSw.2 2 _ rfl; have p3 := hSw.2 3 _ rfl; have p4 := hSw.2 4 _ rfl; have p5 := hSw.2 5 _ rfl; have p6 := hSw.2 6 _ rfl; have p7 := hSw.2 7 _ rfl; clear hSw; simp only [Nat.add_zero] at m0 p0; go_simp; with_reducible rfl
      simp only [Act.put, List.setIfInBounds_toArray, List.set_cons_zero, List.set_cons_succ]
      refine HT.take 5 (v := ?_) rfl (by kernel_rfl) (fun _ _ _ h => h) (Or.inl ⟨by rfl, ?_⟩) (by assumption) ?_
      rotate_left
      · intro W hSw; rw [← hS] at hSw; have m0 := hSw.1 0 _ rfl; have m1 := hSw.1 1 _ rfl; have m2 := hSw.1 2 _ rfl; have m3 := hSw.1 3 _ rfl; have m4 := hSw.1 4 _ rfl; have m5 := hSw.1 5 _ rfl; have m6 := hSw.1 6 _ rfl; have m7 := hSw.1 7 _ rfl; have p0 := hSw.2 0 _ rfl; have p1 := hSw.2 1 _ rfl; have p2 := hSw.2 2 _ rfl; have p3 := hSw.2 3 _ rfl; have p4 := hSw.2 4 _ rfl; have p5 := hSw.2 5 _ rfl; have p6 := hSw.2 6 _ rfl; have p7 := hSw.2 7 _ rfl; clear hSw; simp only [Nat.add_zero] at m0 p0; go_simp; with_reducible rfl
      simp only [Act.put, List.setIfInBounds_toArray, List.set_cons_zero, List.set_cons_succ]
      refine HT.take 6 (v := ?_) rfl (by kernel_rfl) (fun _ _ _ h => h) (Or.inl ⟨by rfl, ?_⟩) (by assumption) ?_
      rotate_left
      · intro W hSw; rw [← hS] at hSw; have m0 := hSw.1 0 _ rfl; have m1 := hSw.1 1 _ rfl; have m2 := hSw.1 2 _ rfl; have m3 := hSw.1 3 _ rfl; have m4 := hSw.1 4 _ rfl; have m5 := hSw.1 5 _ rfl; have m6 := hSw.1 6 _ rfl; have m7 := hSw.1 7 _ rfl; have p0 := hSw.2 0 _ rfl; have p1 := hSw.2 1 _ rfl; have p2 := hSw.2 2 _ rfl; have p3 := hSw.2 3 _ rfl; have p4 := hSw.2 4 _ rfl; have p5 := hSw.2 5 _ rfl; have p6 := hSw.2 6 _ rfl; have p7 := hSw.2 7 _ rfl; clear hSw; simp only [Nat.add_zero] at m0 p0; go_simp; with_reducible rfl
      simp only [Act.put, List.setIfInBounds_toArray, List.set_cons_zero, List.set_cons_succ]
      refine HT.take 7 (v := ?_) rfl (by kernel_rfl) (fun _ _ _ h => h) (Or.inl ⟨by rfl, ?_⟩) (by assumption) ?_
      rotate_left
      · intro W hSw; rw [← hS] at hSw; have m0 := hSw.1 0 _ rfl; have m1 := hSw.1 1 _ rfl; have m2 := hSw.1 2 _ rfl; have m3 := hSw.1 3 _ rfl; have m4 := hSw.1 4 _ rfl; have m5 := hSw.1 5 _ rfl; have m6 := hSw.1 6 _ rfl; have m7 := hSw.1 7 _ rfl; have p0 := hSw.2 0 _ rfl; have p1 := hSw.2 1 _ rfl; have p2 := hSw.2 2 _ rfl; have p3 := hSw.2 3 _ rfl; have p4 := hSw.2 4 _ rfl; have p5 := hSw.2 5 _ rfl; have p6 := hSw.2 6 _ rfl; have p7 := hSw.2 7 _ rfl; clear hSw; simp only [Nat.add_zero] at m0 p0; go_simp; with_reducible rfl
      simp only [Act.put, List.setIfInBounds_toArray, List.set_cons_zero, List.set_cons_succ]
      refine HT.take 8 (v := ?_) rfl (by kernel_rfl) (fun _ _ _ h => h) (Or.inl ⟨by rfl, ?_⟩) (by assumption) ?_
      rotate_left
      · intro W hSw; rw [← hS] at hSw; have m0 := hSw.1 0 _ rfl; have m1 := hSw.1 1 _ rfl; have m2 := hSw.1 2 _ rfl; have m3 := hSw.1 3 _ rfl; have m4 := hSw.1 4 _ rfl; have m5 := hSw.1 5 _ rfl; have m6 := hSw.1 6 _ rfl; have m7 := hSw.1 7 _ rfl; have p0 := hSw.2 0 _ rfl; have p1 := hSw.2 1 _ rfl; have p2 := hSw.2 2 _ rfl; have p3 := hSw.2 3 _ rfl; have p4 := hSw.2 4 _ rfl; have p5 := hSw.2 5 _ rfl; have p6 := hSw.2 6 _ rfl; have p7 := hSw.2 7 _ rfl; clear hSw; simp only [Nat.add_zero] at m0 p0; go_simp; with_reducible rfl
      simp only [Act.put, List.setIfInBounds_toArray, List.set_cons_zero, List.set_cons_succ]
      refine HT.take 9 (v := ?_) rfl (by kernel_rfl) (fun _ _ _ h => h) (Or.inl ⟨by rfl, ?_⟩) (by assumption) ?_
      rotate_left
      · intro W hSw; rw [← hS] at hSw; have m0 := hSw.1 0 _ rfl; have m1 := hSw.1 1 _ rfl; have m2 := hSw.1 2 _ rfl; have m3 := hSw.1 3 _ rfl; have m4 := hSw.1 4 _ rfl; have m5 := hSw.1 5 _ rfl; have m6 := hSw.1 6 _ rfl; have m7 := hSw.1 7 _ rfl; have p0 := hSw.2 0 _ rfl; have p1 := hSw.2 1 _ rfl; have p2 := hSw.2 2 _ rfl; have p3 := hSw.2 3 _ rfl; have p4 := hSw.2 4 _ rfl; have p5 := hSw.2 5 _ rfl; have p6 := hSw.2 6 _ rfl; have p7 := hSw.2 7 _ rfl; clear hSw; simp only [Nat.add_zero] at m0 p0; go_simp; with_reducible rfl
      simp only [Act.put, List.setIfInBounds_toArray, List.set_cons_zero, List.set_cons_succ]
      refine HT.take 10 (v := ?_) rfl (by kernel_rfl) (fun _ _ _ h => h) (Or.inl ⟨by rfl, ?_⟩) (by assumption) ?_
      rotate_left
      · intro W hSw; rw [← hS] at hSw; have m0 := hSw.1 0 _ rfl; have m1 := hSw.1 1 _ rfl; have m2 := hSw.1 2 _ rfl; have m3 := hSw.1 3 _ rfl; have m4 := hSw.1 4 _ rfl; have m5 := hSw.1 5 _ rfl; have m6 := hSw.1 6 _ rfl; have m7 := hSw.1 7 _ rfl; have p0 := hSw.2 0 _ rfl; have p1 := hSw.2 1 _ rfl; have p2 := hSw.2 2 _ rfl; have p3 := hSw.2 3 _ rfl; have p4 := hSw.2 4 _ rfl; have p5 := hSw.2 5 _ rfl; have p6 := hSw.2 6 _ rfl; have p7 := hSw.2 7 _ rfl; clear hSw; simp only [Nat.add_zero] at m0 p0; go_simp; with_reducible rfl
      simp only [Act.put, List.setIfInBounds_toArray, List.set_cons_zero, List.set_cons_succ]
      refine HT.take 11 (v := ?_) rfl (by kernel_rfl) (fun _ _ _ h => h) (Or.inl ⟨by rfl, ?_⟩) (by assumption) ?_
      rotate_left
      · intro W hSw; rw [← hS] at hSw; have m0 := hSw.1 0 _ rfl; have m1 := hSw.1 1 _ rfl; have m2 := hSw.1 2 _ rfl; have m3 := hSw.1 3 _ rfl; have m4 := hSw.1 4 _ rfl; have m5 := hSw.1 5 _ rfl; have m6 := hSw.1 6 _ rfl; have m7 := hSw.1 7 _ rfl; have p0 := hSw.2 0 _ rfl; have p1 := hSw.2 1 _ rfl; have p2 := hSw.2 2 _ rfl; have p3 := hSw.2 3 _ rfl; have p4 := hSw.2 4 _ rfl; have p5 := hSw.2 5 _ rfl; have p6 := hSw.2 6 _ rfl; have p7 := hSw.2 7 _ rfl; clear hSw; simp only [Nat.add_zero] at m0 p0; go_simp; with_reducible rfl
      simp only [Act.put, List.setIfInBounds_toArray, List.set_cons_zero, List.set_cons_succ]
      refine HT.take 12 (v := ?_) rfl (by kernel_rfl) (fun _ _ _ h => h) (Or.inl ⟨by rfl, ?_⟩) (by assumption) ?_
      rotate_left
      · intro W hSw; rw [← hS] at hSw; have m0 := hSw.1 0 _ rfl; have m1 := hSw.1 1 _ rfl; have m2 := hSw.1 2 _ rfl; have m3 := hSw.1 3 _ rfl; have m4 := hSw.1 4 _ rfl; have m5 := hSw.1 5 _ rfl; have m6 := hSw.1 6 _ rfl; have m7 := hSw.1 7 _ rfl; have p0 := hSw.2 0 _ rfl; have p1 := hSw.2 1 _ rfl; have p2 := hSw.2 2 _ rfl; have p3 := hSw.2 3 _ rfl; have p4 := hSw.2 4 _ rfl; have p5 := hSw.2 5 _ rfl; have p6 := hSw.2 6 _ rfl; have p7 := hSw.2 7 _ rfl; clear hSw; simp only [Nat.add_zero] at m0 p0; go_simp; with_reducible rfl
      simp only [Act.put, List.setIfInBounds_toArray, List.set_cons_zero, List.set_cons_succ]
      refine HT.take 13 (v := ?_) rfl (by kernel_rfl) (fun _ _ _ h => h) (Or.inl ⟨by rfl, ?_⟩) (by assumption) ?_
      rotate_left
      · intro W hSw; rw [← hS] at hSw; have m0 := hSw.1 0 _ rfl; have m1 := hSw.1 1 _ rfl; have m2 := hSw.1 2 _ rfl; have m3 := hSw.1 3 _ rfl; have m4 := hSw.1 4 _ rfl; have m5 := hSw.1 5 _ rfl; have m6 := hSw.1 6 _ rfl; have m7 := hSw.1 7 _ rfl; have p0 := hSw.2 0 _ rfl; have p1 := hSw.2 1 _ rfl; have p2 := hSw.2 2 _ rfl; have p3 := hSw.2 3 _ rfl; have p4 := hSw.2 4 _ rfl; have p5 := hSw.2 5 _ rfl; have p6 := hSw.2 6 _ rfl; have p7 := hSw.2 7 _ rfl; clear hSw; simp only [Nat.add_zero] at m0 p0; go_simp; with_reducible rfl
      simp only [Act.put, List.setIfInBounds_toArray, List.set_cons_zero, List.set_cons_succ]
      refine HT.take 14 (v := ?_) rfl (by kernel_rfl) (fun _ _ _ h => h) (Or.inl ⟨by rfl, ?_⟩) (by assumption) ?_
      rotate_left
      · intro W hSw; rw [← hS] at hSw; have m0 := hSw.1 0 _ rfl; have m1 := hSw.1 1 _ rfl; have m2 := hSw.1 2 _ rfl; have m3 := hSw.1 3 _ rfl; have m4 := hSw.1 4 _ rfl; have m5 := hSw.1 5 _ rfl; have m6 := hSw.1 6 _ rfl; have m7 := hSw.1 7 _ rfl; have p0 := hSw.2 0 _ rfl; have p1 := hSw.2 1 _ rfl; have p2 := hSw.2 2 _ rfl; have p3 := hSw.2 3 _ rfl; have p4 := hSw.2 4 _ rfl; have p5 := hSw.2 5 _ rfl; have p6 := hSw.2 6 _ rfl; have p7 := hSw.2 7 _ rfl; clear hSw; simp only [Nat.add_zero] at m0 p0; go_simp; with_reducible rfl
      simp only [Act.put, List.setIfInBounds_toArray, List.set_cons_zero, List.set_cons_succ]
      refine HT.take 15 (v := ?_) rfl (by kernel_rfl) (fun _ _ _ h => h) (Or.inl ⟨by rfl, ?_⟩) (by assumption) ?_
      rotate_left
      · intro W hSw; rw [← hS] at hSw; have m0 := hSw.1 0 _ rfl; have m1 := hSw.1 1 _ rfl; have m2 := hSw.1 2 _ rfl; have m3 := hSw.1 3 _ rfl; have m4 := hSw.1 4 _ rfl; have m5 := hSw.1 5 _ rfl; have m6 := hSw.1 6 _ rfl; have m7 := hSw.1 7 _ rfl; have p0 := hSw.2 0 _ rfl; have p1 := hSw.2 1 _ rfl; have p2 := hSw.2 2 _ rfl; have p3 := hSw.2 3 _ rfl; have p4 := hSw.2 4 _ rfl; have p5 := hSw.2 5 _ rfl; have p6 := hSw.2 6 _ rfl; have p7 := hSw.2 7 _ rfl; clear hSw; simp only [Nat.add_zero] at m0 p0; go_simp; with_reducible rfl
      simp only [Act.put, List.setIfInBounds_toArray, List.set_cons_zero, List.set_cons_succ]
      refine HT.take 16 (v := ?_) rfl (by kernel_rfl) (fun _ _ _ h => h) (Or.inl ⟨by rfl, ?_⟩) (by assumption) ?_
      rotate_left
      · intro W hSw; rw [← hS] at hSw; have m0 := hSw.1 0 _ rfl; have m1 := hSw.1 1 _ rfl; have m2 := hSw.1 2 _ rfl; have m3 := hSw.1 3 _ rfl; have m4 := hSw.1 4 _ rfl; have m5 := hSw.1 5 _ rfl; have m6 := hSw.1 6 _ rfl; have m7 := hSw.1 7 _ rfl; have p0 := hSw.2 0 _ rfl; have p1 := hSw.2 1 _ rfl; have p2 := hSw.2 2 _ rfl; have p3 := hSw.2 3 _ rfl; have p4 := hSw.2 4 _ rfl; have p5 := hSw.2 5 _ rfl; have p6 := hSw.2 6 _ rfl; have p7 := hSw.2 7 _ rfl; clear hSw; simp only [Nat.add_zero] at m0 p0; go_simp; with_reducible rfl
      simp only [Act.put, List.setIfInBounds_toArray, List.set_cons_zero, List.set_cons_succ]
      refine HT.take 17 (v := ?_) rfl (by kernel_rfl) (fun _ _ _ h => h) (Or.inl ⟨by rfl, ?_⟩) (by assumption) ?_
      rotate_left
      · intro W hSw; rw [← hS] at hSw; have m0 := hSw.1 0 _ rfl; have m1 := hSw.1 1 _ rfl; have m2 := hSw.1 2 _ rfl; have m3 := hSw.1 3 _ rfl; have m4 := hSw.1 4 _ rfl; have m5 := hSw.1 5 _ rfl; have m6 := hSw.1 6 _ rfl; have m7 := hSw.1 7 _ rfl; have p0 := hSw.2 0 _ rfl; have p1 := hSw.2 1 _ rfl; have p2 := hSw.2 2 _ rfl; have p3 := hSw.2 3 _ rfl; have p4 := hSw.2 4 _ rfl; have p5 := hSw.2 5 _ rfl; have p6 := hSw.2 6 _ rfl; have p7 := hSw.2 7 _ rfl; clear hSw; simp only [Nat.add_zero] at m0 p0; go_simp; with_reducible rfl
      simp only [Act.put, List.setIfInBounds_toArray, List.set_cons_zero, List.set_cons_succ]
      refine HT.take 18 (v := ?_) rfl (by kernel_rfl) (fun _ _ _ h => h) (Or.inl ⟨by rfl, ?_⟩) (by assumption) ?_
      rotate_left
      · intro W hSw; rw [← hS] at hSw; have m0 := hSw.1 0 _ rfl; have m1 := hSw.1 1 _ rfl; have m2 := hSw.1 2 _ rfl; have m3 := hSw.1 3 _ rfl; have m4 := hSw.1 4 _ rfl; have m5 := hSw.1 5 _ rfl; have m6 := hSw.1 6 _ rfl; have m7 := hSw.1 7 _ rfl; have p0 := hSw.2 0 _ rfl; have p1 := hSw.2 1 _ rfl; have p2 := hSw.2 2 _ rfl; have p3 := hSw.2 3 _ rfl; have p4 := hSw.2 4 _ rfl; have p5 := hSw.2 5 _ rfl; have p6 := hSw.2 6 _ rfl; have p7 := hSw.2 7 _ rfl; clear hSw; simp only [Nat.add_zero] at m0 p0; go_simp; with_reducible rfl
      simp only [Act.put, List.setIfInBounds_toArray, List.set_cons_zero, List.set_cons_succ]
      refine HT.take 19 (v := ?_) rfl (by kernel_rfl) (fun _ _ _ h => h) (Or.inl ⟨by rfl, ?_⟩) (by assumption) ?_
      rotate_left
      · intro W hSw; rw [← hS] at hSw; have m0 := hSw.1 0 _ rfl; have m1 := hSw.1 1 _ rfl; have m2 := hSw.1 2 _ rfl; have m3 := hSw.1 3 _ rfl; have m4 := hSw.1 4 _ rfl; have m5 := hSw.1 5 _ rfl; have m6 := hSw.1 6 _ rfl; have m7 := hSw.1 7 _ rfl; have p0 := hSw.2 0 _ rfl; have p1 := hSw.2 1 _ rfl; have p2 := hSw.2 2 _ rfl; have p3 := hSw.2 3 _ rfl; have p4 := hSw.2 4 _ rfl; have p5 := hSw.2 5 _ rfl; have p6 := hSw.2 6 _ rfl; have p7 := hSw.2 7 _ rfl; clear hSw; simp only [Nat.add_zero] at m0 p0; go_simp; with_reducible rfl
      simp only [Act.put, List.setIfInBounds_toArray, List.set_cons_zero, List.set_cons_succ]
      refine HT.take 20 (v := ?_) rfl (by kernel_rfl) (fun _ _ _ h => h) (Or.inl ⟨by rfl, ?_⟩) (by assumption) ?_
      rotate_left
      · intro W hSw; rw [← hS] at hSw; have m0 := hSw.1 0 _ rfl; have m1 := hSw.1 1 _ rfl; have m2 := hSw.1 2 _ rfl; have m3 := hSw.1 3 _ rfl; have m4 := hSw.1 4 _ rfl; have m5 := hSw.1 5 _ rfl; have m6 := hSw.1 6 _ rfl; have m7 := hSw.1 7 _ rfl; have p0 := hSw.2 0 _ rfl; have p1 := hSw.2 1 _ rfl; have p2 := hSw.2 2 _ rfl; have p3 := hSw.2 3 _ rfl; have p4 := hSw.2 4 _ rfl; have p5 := hSw.2 5 _ rfl; have p6 := hSw.2 6 _ rfl; have p7 := hSw.2 7 _ rfl; clear hSw; simp only [Nat.add_zero] at m0 p0; go_simp; with_reducible rfl
      simp only [Act.put, List.setIfInBounds_toArray, List.set_cons_zero, List.set_cons_succ]
      refine HT.take 21 (v := ?_) rfl (by kernel_rfl) (fun _ _ _ h => h) (Or.inl ⟨by rfl, ?_⟩) (by assumption) ?_
      rotate_left
      · intro W hSw; rw [← hS] at hSw; have m0 := hSw.1 0 _ rfl; have m1 := hSw.1 1 _ rfl; have m2 := hSw.1 2 _ rfl; have m3 := hSw.1 3 _ rfl; have m4 := hSw.1 4 _ rfl; have m5 := hSw.1 5 _ rfl; have m6 := hSw.1 6 _ rfl; have m7 := hSw.1 7 _ rfl; have p0 := hSw.2 0 _ rfl; have p1 := hSw.2 1 _ rfl; have p2 := hSw.2 2 _ rfl; have p3 := hSw.2 3 _ rfl; have p4 := hSw.2 4 _ rfl; have p5 := hSw.2 5 _ rfl; have p6 := hSw.2 6 _ rfl; have p7 := hSw.2 7 _ rfl; clear hSw; simp only [Nat.add_zero] at m0 p0; go_simp; with_reducible rfl
      simp only [Act.put, List.setIfInBounds_toArray, List.set_cons_zero, List.set_cons_succ]
      refine HT.one 22 rfl (by kernel_rfl) (by rfl) (fun K hK => ?_)
      go_simp
      refine (HQ.out wr.drew (below_drew Hb.out.1)).mono ?_
      rintro e w5 ⟨rfl, hb5⟩
      have hb5 : Below wr.heap.size wr w5 := below_drew' hb5
      have hbw5 := Hb.out.1.trans (hb5.mono Hb.out.1.size)
      have hS5 : S w5 := by rw [← hS]; exact ⟨fun j u h => ((bcell hbw5).1 _ _ hl1).trans (HC.out.1 j u h), fun j u h => ((bcell hbw5).1 _ _ hl2).trans (HC.out.2 j u h)⟩
      go_simp
      refine hK.out _ _ hS5 ?_
      clear hK
      refine HT.take 23 (v := ?_) rfl (by kernel_rfl) (fun _ _ _ h => h) (Or.inl ⟨by rfl, ?_⟩) (by assumption) ?_
      rotate_left
      · intro W hSw; rw [← hS] at hSw; have m0 := hSw.1 0 _ rfl; have m1 := hSw.1 1 _ rfl; have m2 := hSw.1 2 _ rfl; have m3 := hSw.1 3 _ rfl; have m4 := hSw.1 4 _ rfl; have m5 := hSw.1 5 _ rfl; have m6 := hSw.1 6 _ rfl; have m7 := hSw.1 7 _ rfl; have p0 := hSw.2 0 _ rfl; have p1 := hSw.2 1 _ rfl; have p2 := hSw.2 2 _ rfl; have p3 := hSw.2 3 _ rfl; have p4 := hSw.2 4 _ rfl; have p5 := hSw.2 5 _ rfl; have p6 := hSw.2 6 _ rfl; have p7 := hSw.2 7 _ rfl; clear hSw; simp only [Nat.add_zero] at m0 p0; go_simp; with_reducible rfl
      simp only [Act.put, List.setIfInBounds_toArray, List.set_cons_zero, List.set_cons_succ]
      refine HT.take 24 (v := ?_) rfl (by kernel_rfl) (fun _ _ _ h => h) (Or.inl ⟨by rfl, ?_⟩) (by assumption) ?_
      rotate_left
      · intro W hSw; rw [← hS] at hSw; have m0 := hSw.1 0 _ rfl; have m1 := hSw.1 1 _ rfl; have m2 := hSw.1 2 _ rfl; have m3 := hSw.1 3 _ rfl; have m4 := hSw.1 4 _ rfl; have m5 := hSw.1 5 _ rfl; have m6 := hSw.1 6 _ rfl; have m7 := hSw.1 7 _ rfl; have p0 := hSw.2 0 _ rfl; have p1 := hSw.2 1 _ rfl; have p2 := hSw.2 2 _ rfl; have p3 := hSw.2 3 _ rfl; have p4 := hSw.2 4 _ rfl; have p5 := hSw.2 5 _ rfl; have p6 := hSw.2 6 _ rfl; have p7 := hSw.2 7 _ rfl; clear hSw; simp only [Nat.add_zero] at m0 p0; go_simp; with_reducible rfl
      simp only [Act.put, List.setIfInBounds_toArray, List.set_cons_zero, List.set_cons_succ]
      refine HT.take 25 (v := ?_) rfl (by kernel_rfl) (fun _ _ _ h => h) (Or.inl ⟨by rfl, ?_⟩) (by assumption) ?_
      rotate_left
      · intro W hSw; rw [← hS] at hSw; have m0 := hSw.1 0 _ rfl; have m1 := hSw.1 1 _ rfl; have m2 := hSw.1 2 _ rfl; have m3 := hSw.1 3 _ rfl; have m4 := hSw.1 4 _ rfl; have m5 := hSw.1 5 _ rfl; have m6 := hSw.1 6 _ rfl; have m7 := hSw.1 7 _ rfl; have p0 := hSw.2 0 _ rfl; have p1 := hSw.2 1 _ rfl; have p2 := hSw.2 2 _ rfl; have p3 := hSw.2 3 _ rfl; have p4 := hSw.2 4 _ rfl; have p5 := hSw.2 5 _ rfl; have p6 := hSw.2 6 _ rfl; have p7 := hSw.2 7 _ rfl; clear hSw; simp only [Nat.add_zero] at m0 p0; go_simp; with_reducible rfl
      simp only [Act.put, List.setIfInBounds_toArray, List.set_cons_zero, List.set_cons_succ]
      refine HT.take 26 (v := ?_) rfl (by kernel_rfl) (fun _ _ _ h => h) (Or.inl ⟨by rfl, ?_⟩) (by assumption) ?_
      rotate_left
      · intro W hSw; rw [← hS] at hSw; have m0 := hSw.1 0 _ rfl; have m1 := hSw.1 1 _ rfl; have m2 := hSw.1 2 _ rfl; have m3 := hSw.1 3 _ rfl; have m4 := hSw.1 4 _ rfl; have m5 := hSw.1 5 _ rfl; have m6 := hSw.1 6 _ rfl; have m7 := hSw.1 7 _ rfl; have p0 := hSw.2 0 _ rfl; have p1 := hSw.2 1 _ rfl; have p2 := hSw.2 2 _ rfl; have p3 := hSw.2 3 _ rfl; have p4 := hSw.2 4 _ rfl; have p5 := hSw.2 5 _ rfl; have p6 := hSw.2 6 _ rfl; have p7 := hSw.2 7 _ rfl; clear hSw; simp only [Nat.add_zero] at m0 p0; go_simp; with_reducible rfl
      simp only [Act.put, List.setIfInBounds_toArray, List.set_cons_zero, List.set_cons_succ]
      refine HT.take 27 (v := ?_) rfl (by kernel_rfl) (fun _ _ _ h => h) (Or.inl ⟨by rfl, ?_⟩) (by assumption) ?_
      rotate_left
      · intro W hSw; rw [← hS] at hSw; have m0 := hSw.1 0 _ rfl; have m1 := hSw.1 1 _ rfl; have m2 := hSw.1 2 _ rfl; have m3 := hSw.1 3 _ rfl; have m4 := hSw.1 4 _ rfl; have m5 := hSw.1 5 _ rfl; have m6 := hSw.1 6 _ rfl; have m7 := hSw.1 7 _ rfl; have p0 := hSw.2 0 _ rfl; have p1 := hSw.2 1 _ rfl; have p2 := hSw.2 2 _ rfl; have p3 := hSw.2 3 _ rfl; have p4 := hSw.2 4 _ rfl; have p5 := hSw.2 5 _ rfl; have p6 := hSw.2 6 _ rfl; have p7 := hSw.2 7 _ rfl; clear hSw; simp only [Nat.add_zero] at m0 p0; go_simp; with_reducible rfl
      simp only [Act.put, List.setIfInBounds_toArray, List.set_cons_zero, List.set_cons_succ]
      refine HT.take 28 (v := ?_) rfl (by kernel_rfl) (fun _ _ _ h => h) (Or.inl ⟨by rfl, ?_⟩) (by assumption) ?_
      rotate_left
      · intro W hSw; rw [← hS] at hSw; have m0 := hSw.1 0 _ rfl; have m1 := hSw.1 1 _ rfl; have m2 := hSw.1 2 _ rfl; have m3 := hSw.1 3 _ rfl; have m4 := hSw.1 4 _ rfl; have m5 := hSw.1 5 _ rfl; have m6 := hSw.1 6 _ rfl; have m7 := hSw.1 7 _ rfl; have p0 := hSw.2 0 _ rfl; have p1 := hSw.2 1 _ rfl; have p2 := hSw.2 2 _ rfl; have p3 := hSw.2 3 _ rfl; have p4 := hSw.2 4 _ rfl; have p5 := hSw.2 5 _ rfl; have p6 := hSw.2 6 _ rfl; have p7 := hSw.2 7 _ rfl; clear hSw; simp only [Nat.add_zero] at m0 p0; go_simp; with_reducible rfl
      simp only [Act.put, List.setIfInBounds_toArray, List.set_cons_zero, List.set_cons_succ]
      refine HT.take 29 (v := ?_) rfl (by kernel_rfl) (fun _ _ _ h => h) (Or.inl ⟨by rfl, ?_⟩) (by assumption) ?_
      rotate_left
      · intro W hSw; rw [← hS] at hSw; have m0 := hSw.1 0 _ rfl; have m1 := hSw.1 1 _ rfl; have m2 := hSw.1 2 _ rfl; have m3 := hSw.1 3 _ rfl; have m4 := hSw.1 4 _ rfl; have m5 := hSw.1 5 _ rfl; have m6 := hSw.1 6 _ rfl; have m7 := hSw.1 7 _ rfl; have p0 := hSw.2 0 _ rfl; have p1 := hSw.2 1 _ rfl; have p2 := hSw.2 2 _ rfl; have p3 := hSw.2 3 _ rfl; have p4 := hSw.2 4 _ rfl; have p5 := hSw.2 5 _ rfl; have p6 := hSw.2 6 _ rfl; have p7 := hSw.2 7 _ rfl; clear hSw; simp only [Nat.add_zero] at m0 p0; go_simp; with_reducible rfl
      simp only [Act.put, List.setIfInBounds_toArray, List.set_cons_zero, List.set_cons_succ]
      refine HT.take 30 (v := ?_) rfl (by kernel_rfl) (fun _ _ _ h => h) (Or.inl ⟨by rfl, ?_⟩) (by assumption) ?_
      rotate_left
      · intro W hSw; rw [← hS] at hSw; have m0 := hSw.1 0 _ rfl; have m1 := hSw.1 1 _ rfl; have m2 := hSw.1 2 _ rfl; have m3 := hSw.1 3 _ rfl; have m4 := hSw.1 4 _ rfl; have m5 := hSw.1 5 _ rfl; have m6 := hSw.1 6 _ rfl; have m7 := hSw.1 7 _ rfl; have p0 := hSw.2 0 _ rfl; have p1 := hSw.2 1 _ rfl; have p2 := hSw.2 2 _ rfl; have p3 := hSw.2 3 _ rfl; have p4 := hSw.2 4 _ rfl; have p5 := hSw.2 5 _ rfl; have p6 := hSw.2 6 _ rfl; have p7 := hSw.2 7 _ rfl; clear hSw; simp only [Nat.add_zero] at m0 p0; go_simp; with_reducible rfl
      simp only [Act.put, List.setIfInBounds_toArray, List.set_cons_zero, List.set_cons_succ]
      refine HT.take 31 (v := ?_) rfl (by kernel_rfl) (fun _ _ _ h => h) (Or.inl ⟨by rfl, ?_⟩) (by assumption) ?_
      rotate_left
      · intro W hSw; rw [← hS] at hSw; have m0 := hSw.1 0 _ rfl; have m1 := hSw.1 1 _ rfl; have m2 := hSw.1 2 _ rfl; have m3 := hSw.1 3 _ rfl; have m4 := hSw.1 4 _ rfl; have m5 := hSw.1 5 _ rfl; have m6 := hSw.1 6 _ rfl; have m7 := hSw.1 7 _ rfl; have p0 := hSw.2 0 _ rfl; have p1 := hSw.2 1 _ rfl; have p2 := hSw.2 2 _ rfl; have p3 := hSw.2 3 _ rfl; have p4 := hSw.2 4 _ rfl; have p5 := hSw.2 5 _ rfl; have p6 := hSw.2 6 _ rfl; have p7 := hSw.2 7 _ rfl; clear hSw; simp only [Nat.add_zero] at m0 p0; go_simp; with_reducible rfl
      simp only [Act.put, List.setIfInBounds_toArray, List.set_cons_zero, List.set_cons_succ]
      refine HT.take 32 (v := ?_) rfl (by kernel_rfl) (fun _ _ _ h => h) (Or.inl ⟨by rfl, ?_⟩) (by assumption) ?_
      rotate_left
      · intro W hSw; rw [← hS] at hSw; have m0 := hSw.1 0 _ rfl; have m1 := hSw.1 1 _ rfl; have m2 := hSw.1 2 _ rfl; have m3 := hSw.1 3 _ rfl; have m4 := hSw.1 4 _ rfl; have m5 := hSw.1 5 _ rfl; have m6 := hSw.1 6 _ rfl; have m7 := hSw.1 7 _ rfl; have p0 := hSw.2 0 _ rfl; have p1 := hSw.2 1 _ rfl; have p2 := hSw.2 2 _ rfl; have p3 := hSw.2 3 _ rfl; have p4 := hSw.2 4 _ rfl; have p5 := hSw.2 5 _ rfl; have p6 := hSw.2 6 _ rfl; have p7 := hSw.2 7 _ rfl; clear hSw; simp only [Nat.add_zero] at m0 p0; go_simp; with_reducible rfl
      simp only [Act.put, List.setIfInBounds_toArray, List.set_cons_zero, List.set_cons_succ]
      refine HT.take 33 (v := ?_) rfl (by kernel_rfl) (fun _ _ _ h => h) (Or.inl ⟨by rfl, ?_⟩) (by assumption) ?_
      rotate_left
      · intro W hSw; rw [← hS] at hSw; have m0 := hSw.1 0 _ rfl; have m1 := hSw.1 1 _ rfl; have m2 := hSw.1 2 _ rfl; have m3 := hSw.1 3 _ rfl; have m4 := hSw.1 4 _ rfl; have m5 := hSw.1 5 _ rfl; have m6 := hSw.1 6 _ rfl; have m7 := hSw.1 7 _ rfl; have p0 := hSw.2 0 _ rfl; have p1 := hSw.2 1 _ rfl; have p2 := hSw.2 2 _ rfl; have p3 := hSw.2 3 _ rfl; have p4 := hSw.2 4 _ rfl; have p5 := hSw.2 5 _ rfl; have p6 := hSw.2 6 _ rfl; have p7 := hSw.2 7 _ rfl; clear hSw; simp only [Nat.add_zero] at m0 p0; go_simp; with_reducible rfl
      simp only [Act.put, List.setIfInBounds_toArray, List.set_cons_zero, List.set_cons_succ]
      refine HT.take 34 (v := ?_) rfl (by kernel_rfl) (fun _ _ _ h => h) (Or.inl ⟨by rfl, ?_⟩) (by assumption) ?_
      rotate_left
      · intro W hSw; rw [← hS] at hSw; have m0 := hSw.1 0 _ rfl; have m1 := hSw.1 1 _ rfl; have m2 := hSw.1 2 _ rfl; have m3 := hSw.1 3 _ rfl; have m4 := hSw.1 4 _ rfl; have m5 := hSw.1 5 _ rfl; have m6 := hSw.1 6 _ rfl; have m7 := hSw.1 7 _ rfl; have p0 := hSw.2 0 _ rfl; have p1 := hSw.2 1 _ rfl; have p2 := hSw.2 2 _ rfl; have p3 := hSw.2 3 _ rfl; have p4 := hSw.2 4 _ rfl; have p5 := hSw.2 5 _ rfl; have p6 := hSw.2 6 _ rfl; have p7 := hSw.2 7 _ rfl; clear hSw; simp only [Nat.add_zero] at m0 p0; go_simp; with_reducible rfl
      simp only [Act.put, List.setIfInBounds_toArray, List.set_cons_zero, List.set_cons_succ]
      refine HT.take 35 (v := ?_) rfl (by kernel_rfl) (fun _ _ _ h => h) (Or.inl ⟨by rfl, ?_⟩) (by assumption) ?_
      rotate_left
      · intro W hSw; rw [← hS] at hSw; have m0 := hSw.1 0 _ rfl; have m1 := hSw.1 1 _ rfl; have m2 := hSw.1 2 _ rfl; have m3 := hSw.1 3 _ rfl; have m4 := hSw.1 4 _ rfl; have m5 := hSw.1 5 _ rfl; have m6 := hSw.1 6 _ rfl; have m7 := hSw.1 7 _ rfl; have p0 := hSw.2 0 _ rfl; have p1 := hSw.2 1 _ rfl; have p2 := hSw.2 2 _ rfl; have p3 := hSw.2 3 _ rfl; have p4 := hSw.2 4 _ rfl; have p5 := hSw.2 5 _ rfl; have p6 := hSw.2 6 _ rfl; have p7 := hSw.2 7 _ rfl; clear hSw; simp only [Nat.add_zero] at m0 p0; go_simp; with_reducible rfl
      simp only [Act.put, List.setIfInBounds_toArray, List.set_cons_zero, List.set_cons_succ]
      refine HT.take 36 (v := ?_) rfl (by kernel_rfl) (fun _ _ _ h => h) (Or.inl ⟨by rfl, ?_⟩) (by assumption) ?_
      rotate_left
      · intro W hSw; rw [← hS] at hSw; have m0 := hSw.1 0 _ rfl; have m1 := hSw.1 1 _ rfl; have m2 := hSw.1 2 _ rfl; have m3 := hSw.1 3 _ rfl; have m4 := hSw.1 4 _ rfl; have m5 := hSw.1 5 _ rfl; have m6 := hSw.1 6 _ rfl; have m7 := hSw.1 7 _ rfl; have p0 := hSw.2 0 _ rfl; have p1 := hSw.2 1 _ rfl; have p2 := hSw.2 2 _ rfl; have p3 := hSw.2 3 _ rfl; have p4 := hSw.2 4 _ rfl; have p5 := hSw.2 5 _ rfl; have p6 := hSw.2 6 _ rfl; have p7 := hSw.2 7 _ rfl; clear hSw; simp only [Nat.add_zero] at m0 p0; go_simp; with_reducible rfl
      simp only [Act.put, List.setIfInBounds_toArray, List.set_cons_zero, List.set_cons_succ]
      refine HT.one 37 rfl (by kernel_rfl) (by rfl) (fun K hK => ?_)
      go_simp
      refine (HR.out w5 hbw5).mono ?_
      rintro e w6 ⟨rfl, hb6⟩
      have hbw6 := hbw5.trans (hb6.mono hbw5.size)
      have hS6 : S w6 := by rw [← hS]; exact ⟨fun j u h => ((bcell hbw6).1 _ _ hl1).trans (HC.out.1 j u h), fun j u h => ((bcell hbw6).1 _ _ hl2).trans (HC.out.2 j u h)⟩
      go_simp
      refine hK.out _ _ hS6 ?_
      clear hK
      refine HT.done (by kernel_rfl) ?_
      simp only [List.drop_succ_cons, List.drop_zero]
      have Hb6 := hide (Hb.out.2.trans ((hb5.trans (hb6.mono hb5.size)).mono Hb.out.2.size))
      clear hb5 hb6 hbw5 hbw6 hS0 hS hS5 hS6
      go_wp2_with fail
      exact ⟨⟨k + 1, by go_num, by omega, Hb6.out⟩, by simp [intOf]; omega⟩
    · have hke : ¬ (k : Int) < (y1 : Int) := by omega
      have H5 := hide hb
      clear hb
      go_wp2_with fail
      go_loopw [89] (fun s W => AAInv y2 w4 s W) (fun s _ => y2 - (intOf s).toNat)
      case atStart => exact ⟨0, rfl, Nat.zero_le _, H5.out⟩
      case round =>
        obtain ⟨k2, rfl, hk2, hb⟩ := hrel
        by_cases hlt2 : k2 < y2
        · have hk0 : k2 = 0 := by omega
          have hki0 : (0 : Int) ≤ (k2 : Int) := Int.natCast_nonneg _
          have hki1 : (k2 : Int) < (y2 : Int) := by omega
          have hmn0 := Hz.out.2 (by omega)
          obtain ⟨x, hx⟩ : ∃ x, m = some x := by
            cases hc : m with
            | none => exact absurd (HM.out.2.2.2.2.2.2.1.2 hc) hmn0
            | some x => exact ⟨x, rfl⟩
          have hp2 := HM.out.2.2.2.2.1
          rw [hx] at hp2
          obtain ⟨x2, hx2⟩ : ∃ x2, m2 = some x2 := by
            cases hc : m2 with
            | none => rw [hc] at hp2; cases hp2
            | some x => exact ⟨x, rfl⟩
          rw [hx2] at hp2
          have hpp := Option.some.inj hp2
          have ha1 := HM.out.2.2.1 x hx
          have ha2 := HM.out.2.2.2.1 x2 hx2
          have hd1 : (ys.drop (k2 * 8)).take 8 = ys.take 8 := by rw [hk0]; simp
          have hd2 : (ys2.drop (k2 * 8)).take 8 = ys2.take 8 := by rw [hk0]; simp
          have hmn2 : ¬ mn2 = 0 := fun e => hmn0 (Hln.out.2.2 e)
          obtain ⟨b1, o1, rfl, hF1, hc1⟩ := rown_at HM.out.1 (show k2 < mn by omega) hd1
          obtain ⟨b2, o2, rfl, hF2, hc2⟩ := rown_at HM.out.2.1 (show k2 < mn2 by omega) hd2
          rw [hk0, Nat.zero_mul, Nat.add_zero] at hc1 hc2
          generalize ys.take 8 = as1 at *
          generalize ys2.take 8 = as2 at *
          cases ha1 with
          | @map fs e rel a0 a1 a2 a3 a4 a5 FA fc fxs u1 u2 u3 u4 u5 u6 u7 =>
          cases ha2 with
          | @map fs2 e' rel' c0 c1 c2 c3 c4 c5 FB fd fys v1 v2 v3 v4 v5 v6 v7 =>
          rw [Ytekaainjpddklaa.S.plain_map, Ytekaainjpddklaa.S.plain_map] at hpp
          simp only [P.map.injEq] at hpp
          obtain ⟨hpf, hpe, rfl⟩ := hpp
          obtain ⟨f1, f2, f3, f4, f5, f6, f7, f8, f9, fa, ee⟩ := u6.ref_form
          simp only [List.cons.injEq, and_true] at ee
          obtain ⟨rfl, rfl, rfl, rfl, rfl, rfl⟩ := ee
          obtain ⟨e1, e2, e3, e4, e5, e6, e7, e8, e9, ea, ee⟩ := v6.ref_form
          simp only [List.cons.injEq, and_true] at ee
          obtain ⟨rfl, rfl, rfl, rfl, rfl, rfl⟩ := ee
          have hal := HM.out.2.2.2.2.2.1 fs e rel hx
          have HR := hide fun (W : World) (hb : Below w.heap.size w W) => hal.1 e' W _ _ hpe (u6.at_ hb) (v6.at_ hb)
          have hfl : fs2.length = fs.length := by
            have := congrArg List.length hpf
            simpa using this.symm
          have hn47 : fs.length ≤ 977382169384 := by unfold R47 at u1; omega
          have HFE := hide fun (j : Nat) (x y : Ytekaainjpddklaa.S) (hx : fs[j]? = some x) (hy : fs2[j]? = some y) => (show x.plain = y.plain from by
            have h1 := congrArg (fun l => l[j]?) hpf
            simpa [hx, hy] using h1)
          rw [hfl] at v4 hc2
          have HU := hide (And.intro u4 (And.intro v4 (And.intro u5 (And.intro v5 hal.2))))
          have HC := hide (And.intro hc1 hc2)
          have hbw := H4.out.trans (hb.mono H4.out.size)
          have hst2 : (rel.toList == rel.toList) = true := by simp
          have hl1 : b1 < w.heap.size := hF1
          have hl2 : b2 < w.heap.size := hF2
          have hfl2 : fs2.length ≤ fs.length := by omega
          have Hfl := hide hfl
          clear hfl
          generalize hn : fs.length = n at *
          have Hn := hide hn
          clear hn
          have hni : ((n : Int) == (n : Int)) = true := by simp
          have hS0 : (∀ j u, ([.slice FA n fc, .bool f1, .string f2, .string f3, .slice f4 f5 f6, .slice f7 f8 f9, .string fa, .string rel] : List Value)[j]? = some u → wr.drew.cell? ⟨b1, o1 + j, none⟩ = some u) ∧ (∀ j u, ([.slice FB n fd, .bool e1, .string e2, .string e3, .slice e4 e5 e6, .slice e7 e8 e9, .string ea, .string rel] : List Value)[j]? = some u → wr.drew.cell? ⟨b2, o2 + j, none⟩ = some u) :=
            ⟨fun j u h => ((bcell hbw).1 _ _ hl1).trans (HC.out.1 j u h), fun j u h => ((bcell hbw).1 _ _ hl2).trans (HC.out.2 j u h)⟩
          have Hb := hide (And.intro hbw hb)
          clear hb hbw hc1 hc2 hF1 hF2 u1 u2 u3 u4 u5 u6 u7 v1 v2 v3 v4 v5 v6 v7 hal hp2 hpe hpf hd1 hd2 hx hx2
          have m0 := hS0.1 0 _ rfl
          have m1 := hS0.1 1 _ rfl
          have m2 := hS0.1 2 _ rfl
          have m3 := hS0.1 3 _ rfl
          have m4 := hS0.1 4 _ rfl
          have m5 := hS0.1 5 _ rfl
          have m6 := hS0.1 6 _ rfl
          have m7 := hS0.1 7 _ rfl
          have p0 := hS0.2 0 _ rfl
          have p1 := hS0.2 1 _ rfl
          have p2 := hS0.2 2 _ rfl
          have p3 := hS0.2 3 _ rfl
          have p4 := hS0.2 4 _ rfl
          have p5 := hS0.2 5 _ rfl
          have p6 := hS0.2 6 _ rfl
          have p7 := hS0.2 7 _ rfl
          simp only [Nat.add_zero] at m0 p0
          clear hS0
          go_wp2_with fail
          go_still_tail 38, (by kernel_rfl)
          change wpList _ _ _ _ _ wr.drew
          clear m0 m1 m2 m3 m4 m5 m6 m7 p0 p1 p2 p3 p4 p5 p6 p7
          go_wp2_with fail
          refine (HR.out wr.drew (below_drew Hb.out.1)).mono ?_
          rintro e w5 ⟨rfl, hb5⟩
          have hb5 : Below wr.heap.size wr w5 := below_drew' hb5
          have hbw5 := Hb.out.1.trans (hb5.mono Hb.out.1.size)
          have hS5' : (∀ j u, ([.slice FA n fc, .bool f1, .string f2, .string f3, .slice f4 f5 f6, .slice f7 f8 f9, .string fa, .string rel] : List Value)[j]? = some u → w5.cell? ⟨b1, o1 + j, none⟩ = some u) ∧ (∀ j u, ([.slice FB n fd, .bool e1, .string e2, .string e3, .slice e4 e5 e6, .slice e7 e8 e9, .string ea, .string rel] : List Value)[j]? = some u → w5.cell? ⟨b2, o2 + j, none⟩ = some u) := ⟨fun j u h => ((bcell hbw5).1 _ _ hl1).trans (HC.out.1 j u h), fun j u h => ((bcell hbw5).1 _ _ hl2).trans (HC.out.2 j u h)⟩
          have Hb5 := hide (And.intro hbw5 (Hb.out.2.trans (hb5.mono Hb.out.2.size)))
          have m0 := hS5'.1 0 _ rfl
          have p0 := hS5'.2 0 _ rfl
          simp only [Nat.add_zero] at m0 p0
          clear hb5 hbw5 hS5'
          go_wp2_with fail
          go_loopw [139] (fun s W => AAInv n w5 s W) (fun s _ => n - (intOf s).toNat)
          case atStart => exact ⟨0, rfl, Nat.zero_le _, Below.refl _ _⟩
          case round =>
            obtain ⟨j, rfl, hj, hb⟩ := hrel
            clear m0 p0
            by_cases hltj : j < n
            · have hj1 : j < fs.length := by rw [Hn.out]; exact hltj
              have hj2 : j < fs2.length := by rw [Hfl.out]; exact hltj
              have hxj : fs[j]? = some fs[j] := List.getElem?_eq_getElem hj1
              have hyj : fs2[j]? = some fs2[j] := List.getElem?_eq_getElem hj2
              have hmem : fs[j] ∈ fs := List.getElem_mem _
              have hpj := HFE.out j _ _ hxj hyj
              have hsx := HU.out.2.2.1 j _ hxj
              have hsy := HU.out.2.2.2.1 j _ hyj
              have haf := HU.out.2.2.2.2 _ hmem
              generalize fs[j] = xj at *
              generalize fs2[j] = yj at *
              generalize hcs1 : (fxs.drop (j * 8)).take 8 = as1 at hsx
              generalize hcs2 : (fys.drop (j * 8)).take 8 = as2 at hsy
              obtain ⟨g0, g1, g2, g3, g4, g5, g6, g7, g8, g9, ga, gb, gd, ge, rfl⟩ := hsx.field_form
              obtain ⟨i0, i1, i2, i3, i4, i5, i6, i7, i8, i9, ia, ib, id, ie, rfl⟩ := hsy.field_form
              obtain ⟨fb1, fo1, rfl, hG1, hd1⟩ := rown_at HU.out.1 hltj hcs1
              obtain ⟨fb2, fo2, rfl, hG2, hd2⟩ := rown_at HU.out.2.1 hltj hcs2
              have hl3 : fb1 < w.heap.size := hG1
              have hl4 : fb2 < w.heap.size := hG2
              have hbw := Hb5.out.1.trans (hb.mono Hb5.out.1.size)
              have HAF := hide fun (W : World) (hb : Below w.heap.size w W) => haf yj W _ _ hpj (hsx.at_ hb) (hsy.at_ hb)
              have hji0 : (0 : Int) ≤ (j : Int) := Int.natCast_nonneg _
              have hji1 : (j : Int) < (n : Int) := by omega
              have m0 := ((bcell hbw).1 _ _ hl1).trans (HC.out.1 0 _ rfl)
              have p0 := ((bcell hbw).1 _ _ hl2).trans (HC.out.2 0 _ rfl)
              simp only [Nat.add_zero] at m0 p0
              have r0 := ((bcell hbw).1 _ _ hl3).trans (hd1 0 _ rfl)
              have s0 := ((bcell hbw).1 _ _ hl4).trans (hd2 0 _ rfl)
              have r1 := ((bcell hbw).1 _ _ hl3).trans (hd1 1 _ rfl)
              have s1 := ((bcell hbw).1 _ _ hl4).trans (hd2 1 _ rfl)
              have r2 := ((bcell hbw).1 _ _ hl3).trans (hd1 2 _ rfl)
              have s2 := ((bcell hbw).1 _ _ hl4).trans (hd2 2 _ rfl)
              have r3 := ((bcell hbw).1 _ _ hl3).trans (hd1 3 _ rfl)
              have s3 := ((bcell hbw).1 _ _ hl4).trans (hd2 3 _ rfl)
              have r4 := ((bcell hbw).1 _ _ hl3).trans (hd1 4 _ rfl)
              have s4 := ((bcell hbw).1 _ _ hl4).trans (hd2 4 _ rfl)
              have r5 := ((bcell hbw).1 _ _ hl3).trans (hd1 5 _ rfl)
              have s5 := ((bcell hbw).1 _ _ hl4).trans (hd2 5 _ rfl)
              have r6 := ((bcell hbw).1 _ _ hl3).trans (hd1 6 _ rfl)
              have s6 := ((bcell hbw).1 _ _ hl4).trans (hd2 6 _ rfl)
              have r7 := ((bcell hbw).1 _ _ hl3).trans (hd1 7 _ rfl)
              have s7 := ((bcell hbw).1 _ _ hl4).trans (hd2 7 _ rfl)
              rw [Nat.add_zero] at r0 s0
              have Hb := hide (And.intro hbw hb)
              clear hb hbw hd1 hd2 hG1 hG2 hsx hsy haf hpj hxj hyj hmem hcs1 hcs2 hj1 hj2
              go_wp2_with fail
              go_still_tail 17, (by kernel_rfl)
              change wpList _ _ _ _ _ wr.drew
              clear m0 p0 r0 r1 r2 r3 r4 r5 r6 r7 s0 s1 s2 s3 s4 s5 s6 s7
              go_wp2_with fail
              refine (HAF.out wr.drew (below_drew Hb.out.1)).mono ?_
              rintro e w6 ⟨rfl, hb6⟩
              have hb6 : Below wr.heap.size wr w6 := below_drew' hb6
              have Hb6 := hide (Hb.out.2.trans (hb6.mono Hb.out.2.size))
              clear hb6
              go_wp2_with fail
              exact ⟨⟨j + 1, by go_num, by omega, Hb6.out⟩, by simp [intOf]; omega⟩
            · have hje : ¬ (j : Int) < (n : Int) := by omega
              have Hb6 := hide (Hb5.out.2.trans (hb.mono Hb5.out.2.size))
              clear hb
              go_wp2_with fail
              exact ⟨⟨k2 + 1, by go_num, by omega, Hb6.out⟩, by simp [intOf]; omega⟩
        · have hke2 : ¬ (k2 : Int) < (y2 : Int) := by omega
          have H6 := hide (H4.out.trans (hb.mono H4.out.size))
          clear hb
          go_wp2
          go_ret
          exact ⟨rfl, H6.out⟩

/-- laws.atomsAlike of all types that mean the same -/
theorem alikeAtom_all (s : Ytekaainjpddklaa.S) (hs : ∃ sc l m, s = .atom sc l m) : AlikeAtomOK s := by
  induction hn : SizeOf.sizeOf s using Nat.strongRecOn generalizing s with
  | ind n ih =>
  subst hn
  obtain ⟨sc, l, m, rfl⟩ := hs
  have ref : ∀ t : Ytekaainjpddklaa.S, SizeOf.sizeOf t < SizeOf.sizeOf (Ytekaainjpddklaa.S.atom sc l m) → AlikeRefOK t := by
    intro t ht b w cs1 cs2 hp h1 h2
    have h0 := h1
    cases h1 with
    | @ref b name rel a c0 c1 c2 g1 g2 g3 =>
      refine alikeRef_of (ih _ ?_ a ?_ rfl) _ w _ _ hp h0 h2
      · simp at ht ⊢
        omega
      · cases g3
        exact ⟨_, _, _, rfl⟩
  refine alikeAtom_of ?_ ?_
  · intro e rel keys hx
    subst hx
    exact ref e (by simp; omega)
  · intro fs e rel hx
    subst hx
    refine ⟨ref e (by simp; omega), fun x hx b w cs1 cs2 hp h1 h2 => ?_⟩
    have hlt := lt_list hx
    have h0 := h1
    cases h1 with
    | @field name t d => exact alikeField_of (ref t (by simp at hlt ⊢; omega)) _ w _ _ hp h0 h2

set_option maxRecDepth 100000 in
set_option maxHeartbeats 1000000 in
theorem sameAtom_calls (a b : Ytekaainjpddklaa.S) (w : World) (cs1 cs2 : List Value) (hp : a.plain = b.plain) (h1 : SAt (Old w) w .atom a cs1) (h2 : SAt (Old w) w .atom b cs2) :
    Calls Try.prog 22 #[.agg cs1.toArray, .agg cs2.toArray] w (LawPost w) := by
  have hs : ∃ sc l m, a = .atom sc l m := by cases h1; exact ⟨_, _, _, rfl⟩
  have HA := hide fun (W : World) (hb : Below w.heap.size w W) => alikeAtom_all a hs b W _ _ hp (h1.at_ hb) (h2.at_ hb)
  obtain ⟨f0, f1, f2, f3, f4, f5, f6, rfl⟩ := h1.atom_form
  obtain ⟨g0, g1, g2, g3, g4, g5, g6, rfl⟩ := h2.atom_form
  have Hst := hide (Q2.made w 38 38 #[.string f0, .slice f1 f2 f3, .slice f4 f5 f6] #[.string g0, .slice g1 g2 g3, .slice g4 g5 g6])
  unfold SameF at HA
  clear h1 h2 hs hp
  go_enter Try.func22, Try.ntmps22
  go_wp2_with fail
  refine (HA.out _ Hst.out.below).mono ?_
  rintro e w1 ⟨rfl, hb1⟩
  have Hb := hide (Hst.out.below.trans (hb1.mono Hst.out.below.size))
  clear hb1 Hst
  go_wp2
  go_ret
  exact ⟨rfl, Hb.out⟩

end Go.Proofs.Ytekaainjpddklaa
