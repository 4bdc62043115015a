/-
  Schema.resolveNoOverrides; Schema.Resolve of a reference without a relationship of its own; impl.Resolve. Printed by genresolve.py.
-/
import Derived.Test.YtekaainjpddklaaSchFrom
import Derived.Test.YtekaainjpddklaaSchTo
set_option linter.unusedVariables false
set_option linter.unusedSimpArgs false
namespace Go.Proofs.Ytekaainjpddklaa
open Go.RowKit
attribute [local go_sem] run_store_float

/-- a type's struct and whether it was found -/
def FindPostF (F : Nat → Prop) (o : Option P) (w : World) (e : Ending) (w' : World) : Prop := ∃ (nm : ByteArray) (x y z : Option Addr), e = .returned (.tuple #[.agg #[.string nm, .pointer x, .pointer y, .pointer z], .bool o.isSome]) ∧ PAt F w .atom (o.getD P.empty) [.pointer x, .pointer y, .pointer z] ∧ Below w.heap.size w w'

theorem find_retF {F : Nat → Prop} {fn : Func} (hfn : fn.results = #[.cell 4 94, .tmp 5]) (tmps : Array Value) {w W : World} {nm : ByteArray} {x y z : Option Addr} {o : Option P} {a0 a1 a2 a3 : Value} (hR : Bk W w.heap.size 94 #[a0, a1, a2, a3]) (hb : Below w.heap.size w W) (ha : PAt F w .atom (o.getD P.empty) [.pointer x, .pointer y, .pointer z])
    (hp : tmps.getD 4 undef = .pointer (some ⟨w.heap.size, 0, none⟩)) (hq : tmps.getD 5 undef = .bool o.isSome) :
    bodyPost Try.prog fn (FindPostF F o w) .ret { tmps := tmps, defers := [] } (set4 W w.heap.size (.string nm) (.pointer x) (.pointer y) (.pointer z)) := by
  refine bodyPost_ret (results_cell_two hfn _ _ w.heap.size 94 #[.string nm, .pointer x, .pointer y, .pointer z] (0, 0) _ (.bool o.isSome) hp hq (set4_same _ _ _ _ hR) Try.underlying94 rfl (by kernel_rfl)) rfl ?_
  exact ⟨nm, x, y, z, rfl, ha, set4_below _ _ _ _ hb (Nat.le_refl _)⟩

set_option maxRecDepth 100000 in
set_option maxHeartbeats 4000000 in
theorem findNamedType_callsF {F : Nat → Prop} {ts : List P} {A : Option Addr} {c g : Nat} {name : ByteArray} {w : World} (hFw : ∀ b, F b → b < w.heap.size) (hg : g < w.heap.size) (hB : Bk w g 162 #[.slice A ts.length c]) (h : SchP F w ts A c) :
    Calls Try.prog 64 #[.pointer (some ⟨g, 0, none⟩), .string name] w (FindPostF F (findL ts name) w) := by
  obtain ⟨h1, h2, h3, xs, h4, h5⟩ := h
  have hn : ts.length ≤ 8796093022208 := by unfold R47 at h1; omega
  have H4 := hide (And.intro h4 h5)
  have HB := hide hB
  have q0 := hB.cell 0
  simp at q0
  clear h1 h4 h5 hB
  go_enter Try.func64, Try.ntmps64
  go_upto_region 1 with fail
  have hb0 : Below w.heap.size w (w.alloc (.cells #[.string ⟨#[]⟩, .pointer none, .pointer none, .pointer none] 94)) := (Below.refl _ _).alloc (Nat.le_refl _) _
  have hR0 := Bk.new w 94 #[.string ⟨#[]⟩, .pointer none, .pointer none, .pointer none]
  generalize World.alloc w _ = W at hb0 hR0 ⊢
  have q1 := (HB.out.below hb0 hg).cell 0
  simp at q1
  have hgl := hR0.lt
  have hgg : g < W.heap.size := by omega
  have H0 := hide (And.intro hb0 hR0)
  have e1 : IntKind.i64.wrap ((ts.length : Int) - 1) = (ts.length : Int) - 1 := IntWalk.i64_in _ (by omega)
  clear hb0 hR0
  go_wp2_with fail
  go_loopw [6] (fun s W' => FNInv ts name W s W') (fun s _ => (intOf s + 1).toNat)
  case atStart => exact ⟨(ts.length : Int) - 1, rfl, by omega, by omega, fun j p hj hp => (by have := (List.getElem?_eq_some_iff.1 hp).1; omega), rfl⟩
  case round =>
    obtain ⟨i, rfl, hi1, hi2, hnm, rfl⟩ := hrel
    by_cases hi : 0 ≤ i
    · obtain ⟨j, rfl⟩ : ∃ j : Nat, i = (j : Int) := ⟨i.toNat, by omega⟩
      have hjn : j < ts.length := by omega
      have hx := H4.out.2.at_ hjn
      have hjk : ts[j]? = some ts[j] := List.getElem?_eq_getElem hjn
      generalize ts[j] = fx at *
      generalize hcs : (xs.drop (j * 4)).take 4 = fcs at hx
      obtain ⟨nm, x, y, z, a, rfl, rfl, hn47, ha⟩ := hx.def_form
      obtain ⟨rb, ro, rfl, hF, hc⟩ := rown_at H4.out.1 hjn hcs
      have hkc0 := hc 0 _ rfl
      rw [Nat.add_zero] at hkc0
      have hkc1 := hc 1 _ rfl
      have hkc2 := hc 2 _ rfl
      have hkc3 := hc 3 _ rfl
      have ec := (bcell H0.out.1).1
      rw [← ec _ _ (hFw _ hF)] at hkc0 hkc1 hkc2 hkc3
      have hrb : rb < w.heap.size := hFw _ hF
      have e2 : IntKind.i64.wrap ((j : Int) - 1) = (j : Int) - 1 := IntWalk.i64_in _ (by omega)
      by_cases hname : nm = name
      · subst hname
        have hst : (nm.toList == nm.toList) = true := by simp
        have hres := findL_hit hjk fun i p hi hp => hnm i p (by omega) hp
        have r0 := H0.out.2.cell 0
        have r1 := H0.out.2.cell 1
        have r2 := H0.out.2.cell 2
        have r3 := H0.out.2.cell 3
        simp at r0 r1 r2 r3
        have fzb := H0.out.2.free
        have Hr := hide (And.intro hres (And.intro ha hnm))
        clear hres ha hnm hc ec hjk hcs
        go_wp2
        rw [Hr.out.1]
        exact find_retF (o := some a) rfl _ H0.out.2 H0.out.1 Hr.out.2.1 rfl rfl
      · have hst : (nm.toList == name.toList) = false := by rw [str_eq]; exact decide_eq_false hname
        have hnone : namedP name (.def_ nm a) = none := if_neg hname
        have Hr := hide (And.intro hnm (And.intro hnone hjk))
        clear hnm ha hc ec hjk hcs hnone
        go_wp2_with fail
        refine ⟨⟨(j : Int) - 1, rfl, by omega, by omega, fun k p hk hp => (by
          by_cases hkj : k = j
          · subst hkj
            have := Hr.out.2.2
            rw [hp] at this
            cases this
            exact Hr.out.2.1
          · exact Hr.out.1 k p (by omega) hp), rfl⟩, ?_⟩
        simp only [intOf, Array.getD_eq_getD_getElem?]
        simp <;> omega
    · have hres : findL ts name = none := findL_miss fun k p hp => hnm k p (by omega) hp
      have r0 := H0.out.2.cell 0
      have r1 := H0.out.2.cell 1
      have r2 := H0.out.2.cell 2
      have r3 := H0.out.2.cell 3
      simp at r0 r1 r2 r3
      have fzb := H0.out.2.free
      have Hr := hide (And.intro hres hnm)
      clear hres hnm
      go_wp2
      rw [Hr.out.1]
      exact find_retF (o := none) rfl _ H0.out.2 H0.out.1 PAt.empty_ rfl rfl


/-- the type that a reference names or holds -/
def baseP (ts : List P) : P → Option P
  | .ref none inl _ => some inl
  | .ref (some n) _ _ => findL ts n
  | _ => none

/-- a type's struct, shared or new, and whether it was found -/
def ResPost (F : Nat → Prop) (o : Option P) (w : World) (e : Ending) (w' : World) : Prop := ∃ x y z : Option Addr, e = .returned (.tuple #[.agg #[.pointer x, .pointer y, .pointer z], .bool o.isSome]) ∧ PAt (fun b => F b ∨ Fr w.heap.size w' b) w' .atom (o.getD P.empty) [.pointer x, .pointer y, .pointer z] ∧ Below w.heap.size w w'

theorem res_ret {F : Nat → Prop} {fn : Func} (hfn : fn.results = #[.cell 4 92, .tmp 5]) (tmps : Array Value) {w W : World} {r : Nat} {x y z : Option Addr} {o : Option P} {a0 a1 a2 : Value} (hFw : ∀ b, F b → b < w.heap.size) (hr : w.heap.size ≤ r) (hR : Bk W r 92 #[a0, a1, a2]) (hb : Below w.heap.size w W) (ha : PAt F w .atom (o.getD P.empty) [.pointer x, .pointer y, .pointer z])
    (hp : tmps.getD 4 undef = .pointer (some ⟨r, 0, none⟩)) (hq : tmps.getD 5 undef = .bool o.isSome) :
    bodyPost Try.prog fn (ResPost F o w) .ret { tmps := tmps, defers := [] } (set3 W r (.pointer x) (.pointer y) (.pointer z)) := by
  refine bodyPost_ret (results_cell_two hfn _ _ r 92 #[.pointer x, .pointer y, .pointer z] (0, 0) _ (.bool o.isSome) hp hq (set3_same _ _ _ hR) Try.underlying92 rfl (by kernel_rfl)) rfl ?_
  exact ⟨x, y, z, rfl, (ha.keeps (Keeps.below (set3_below _ _ _ hb hr) hFw)).mono fun b hb => .inl hb, set3_below _ _ _ hb hr⟩

set_option maxRecDepth 100000 in
set_option maxHeartbeats 4000000 in
theorem resolveNo_calls {F : Nat → Prop} {ts : List P} {A : Option Addr} {c g : Nat} {r : P} {w : World} {cs : List Value} (hFw : ∀ b, F b → b < w.heap.size) (hg : g < w.heap.size) (hB : Bk w g 162 #[.slice A ts.length c]) (h : SchP F w ts A c) (hr : PAt F w .ref r cs) :
    Calls Try.prog 106 #[.pointer (some ⟨g, 0, none⟩), .agg cs.toArray] w (ResPost F (baseP ts r) w) := by
  cases hr with
  | @ref named rel inl v0 c0 c1 c2 v1 k0 k1 k2 k3 k4 =>
  obtain ⟨x, y, z, e⟩ := k3.atom_form
  simp only [List.cons.injEq, and_true] at e
  obtain ⟨rfl, rfl, rfl⟩ := e
  obtain ⟨rr, rfl⟩ := k4.form
  rcases k1 with ⟨rfl, rfl⟩ | ⟨n, gn, rfl, rfl, hgn, hBn, hn47⟩
  · have Ha := hide k3
    have HFw := hide hFw
    clear k0 k2 k3 k4 hB h hFw
    rw [baseP]
    go_enter Try.func106, Try.ntmps106
    go_upto_region 2 with fail
    have st := Q3.made w 117 92 92 #[.pointer none, .pointer x, .pointer y, .pointer z, .pointer rr, .bool false] #[.pointer none, .pointer none, .pointer none] #[.pointer none, .pointer none, .pointer none]
    generalize World.alloc (World.alloc (World.alloc w _) _) _ = W at st ⊢
    have hgl := st.c.lt
    have hglb := st.b.lt
    have fz := st.c.free
    have fzb := st.b.free
    have q0 := st.a.cell 0
    have q1 := st.a.cell 1
    have q2 := st.a.cell 2
    have q3 := st.a.cell 3
    have q4 := st.a.cell 4
    have q5 := st.a.cell 5
    have k0 := st.c.cell 0
    have k1 := st.c.cell 1
    have k2 := st.c.cell 2
    have r0 := st.b.cell 0
    have r1 := st.b.cell 1
    have r2 := st.b.cell 2
    simp at q0 q1 q2 q3 q4 q5 k0 k1 k2 r0 r1 r2
    have Hst := hide st
    clear st
    go_wp2
    exact res_ret (o := some inl) rfl _ HFw.out (by omega) (((Hst.out.b.far (by simp only; omega) _).far (by simp only; omega) _).far (by simp only; omega) _) (set3_below _ _ _ Hst.out.below (by omega)) Ha.out rfl rfl
  · have HF := hide fun (W : World) (hb : Below w.heap.size w W) => findNamedType_callsF (name := n) (F := F) (fun b hb' => Nat.lt_of_lt_of_le (hFw b hb') hb.size) (Nat.lt_of_lt_of_le hg hb.size) (hB.below hb hg) (h.keeps (Keeps.below hb hFw))
    have hgn : gn < w.heap.size := hFw _ hgn
    have HBn := hide hBn
    have HFw := hide hFw
    clear k0 k2 k3 k4 hB h hBn hFw
    rw [baseP]
    generalize findL ts n = o at *
    go_enter Try.func106, Try.ntmps106
    go_upto_region 2 with fail
    have st := Q3.made w 117 92 92 #[.pointer (some ⟨gn, 0, none⟩), .pointer x, .pointer y, .pointer z, .pointer rr, .bool false] #[.pointer none, .pointer none, .pointer none] #[.pointer none, .pointer none, .pointer none]
    generalize World.alloc (World.alloc (World.alloc w _) _) _ = W at st ⊢
    have n0 := (HBn.out.below st.below hgn).cell 0
    simp at n0
    have hgl := st.c.lt
    have hglb := st.b.lt
    have fz := st.c.free
    have fzb := st.b.free
    have q0 := st.a.cell 0
    have q1 := st.a.cell 1
    have q2 := st.a.cell 2
    have q3 := st.a.cell 3
    have q4 := st.a.cell 4
    have q5 := st.a.cell 5
    have k0 := st.c.cell 0
    have k1 := st.c.cell 1
    have k2 := st.c.cell 2
    have r0 := st.b.cell 0
    have r1 := st.b.cell 1
    have r2 := st.b.cell 2
    simp at q0 q1 q2 q3 q4 q5 k0 k1 k2 r0 r1 r2
    have Hst := hide st
    clear st
    go_wp2_with fail
    refine (HF.out W Hst.out.below).mono ?_
    rintro e w2 ⟨nm, x', y', z', rfl, ha, hb2⟩
    have Ha := hide (ha.keeps (w' := w) fun b hb => (Hst.out.below.block b (HFw.out b hb)).symm)
    have st2 := Hst.out.call hb2
    have hb3 : Below w2.heap.size w2 (w2.alloc (.cells #[.string nm, .pointer x', .pointer y', .pointer z'] 94)) := (Below.refl _ _).alloc (Nat.le_refl _) _
    have hk := Bk.new w2 94 #[.string nm, .pointer x', .pointer y', .pointer z']
    have hsz := st2.c.lt
    have H3 := hide (And.intro (st2.call hb3) hk)
    clear st2 hk hb3 ha hb2 HF q0 q1 q2 q3 q4 q5 k0 k1 k2 r0 r1 r2 n0 hgl hglb fz fzb
    go_upto_region 4 with fail
    obtain ⟨st3, hk⟩ := H3.out
    clear H3
    obtain ⟨g3, hg3⟩ : ∃ g3, w2.heap.size = g3 := ⟨_, rfl⟩
    rw [hg3] at hk hsz ⊢
    generalize World.alloc w2 _ = W3 at st3 hk ⊢
    have m1 := hk.cell 1
    have m2 := hk.cell 2
    have m3 := hk.cell 3
    have hml := hk.lt
    simp at m1 m2 m3
    have hgl := st3.c.lt
    have hglb := st3.b.lt
    have fz := st3.c.free
    have fzb := st3.b.free
    have k0 := st3.c.cell 0
    have k1 := st3.c.cell 1
    have k2 := st3.c.cell 2
    have r0 := st3.b.cell 0
    have r1 := st3.b.cell 1
    have r2 := st3.b.cell 2
    simp at k0 k1 k2 r0 r1 r2
    have H4 := hide st3
    cases o with
    | none =>
      clear st3 hk hg3
      go_wp2
      exact res_ret (o := none) rfl _ HFw.out (by omega) H4.out.b H4.out.below PAt.empty_ rfl rfl
    | some a =>
      clear st3 hk hg3
      go_wp2
      exact res_ret (o := some a) rfl _ HFw.out (by omega) (((H4.out.b.far (by simp only; omega) _).far (by simp only; omega) _).far (by simp only; omega) _) (set3_below _ _ _ H4.out.below (by omega)) Ha.out rfl rfl

/-- what Schema.Resolve of this reference answers -/
def ResOK (ts : List P) (r : P) (o : Option P) : Prop := ∀ (F : Nat → Prop) (A : Option Addr) (c g : Nat) (w : World) (cs : List Value), (∀ b, F b → b < w.heap.size) → g < w.heap.size → Bk w g 162 #[.slice A ts.length c] → SchP F w ts A c → PAt F w .ref r cs →
    Calls Try.prog 71 #[.pointer (some ⟨g, 0, none⟩), .agg cs.toArray] w (ResPost F o w)

theorem res_retN {F : Nat → Prop} {fn : Func} (hfn : fn.results = #[.cell 4 92, .tmp 5]) (tmps : Array Value) {w W0 W : World} {x y z : Option Addr} {o : Option P} {a0 a1 a2 : Value} (hFw : ∀ b, F b → b < w.heap.size) (hW0 : w.heap.size + 1 < W0.heap.size) (hR : Bk W (w.heap.size + 1) 92 #[a0, a1, a2]) (hb : Below w.heap.size w W) (ha : PAt (fun b => F b ∨ Fr W0.heap.size W b) W .atom (o.getD P.empty) [.pointer x, .pointer y, .pointer z])
    (hp : tmps.getD 4 undef = .pointer (some ⟨w.heap.size + 1, 0, none⟩)) (hq : tmps.getD 5 undef = .bool o.isSome) :
    bodyPost Try.prog fn (ResPost F o w) .ret { tmps := tmps, defers := [] } (set3 W (w.heap.size + 1) (.pointer x) (.pointer y) (.pointer z)) := by
  refine bodyPost_ret (results_cell_two hfn _ _ (w.heap.size + 1) 92 #[.pointer x, .pointer y, .pointer z] (0, 0) _ (.bool o.isSome) hp hq (set3_same _ _ _ hR) Try.underlying92 rfl (by kernel_rfl)) rfl ?_
  refine ⟨x, y, z, rfl, (ha.keeps fun b hb => set3_heap _ _ _ _ _ _ ?_).mono fun b hb => ?_, set3_below _ _ _ hb (by omega)⟩
  · rcases hb with hb | hb
    · have := hFw b hb; omega
    · have := hb.1; omega
  · rcases hb with hb | hb
    · exact .inl hb
    · exact .inr ⟨by have := hb.1; omega, by rw [set3_size]; exact hb.2⟩

set_option maxRecDepth 100000 in
set_option maxHeartbeats 4000000 in
theorem resolve_bare (ts : List P) (named : Option ByteArray) (inl : P) : ResOK ts (.ref named inl none) (baseP ts (.ref named inl none)) := by
  intro F A c g w cs hFw hg hB h hr
  have HR := hide fun (W : World) (hb : Below w.heap.size w W) => resolveNo_calls (F := F) (fun b hb' => Nat.lt_of_lt_of_le (hFw b hb') hb.size) (Nat.lt_of_lt_of_le hg hb.size) (hB.below hb hg) (h.keeps (Keeps.below hb hFw)) (hr.keeps (Keeps.below hb hFw))
  generalize baseP ts (.ref named inl none) = o at *
  obtain ⟨n, x, y, z, rr, rfl⟩ := hr.ref_form
  have hrr : rr = none := by
    cases hr with
    | @ref _ _ _ _ _ _ _ _ k0 k1 k2 k3 k4 =>
    rcases k4 with ⟨-, h⟩ | ⟨s, g, h, -⟩
    · cases h; rfl
    · cases h
  subst hrr
  have HFw := hide hFw
  clear hr hB h hFw
  go_enter Try.func71, Try.ntmps71
  go_upto_region 1 with fail
  have st := Q2.made w 117 92 #[.pointer n, .pointer x, .pointer y, .pointer z, .pointer none, .bool false] #[.pointer none, .pointer none, .pointer none]
  generalize World.alloc (World.alloc w _) _ = W at st ⊢
  have q0 := st.a.cell 0
  have q1 := st.a.cell 1
  have q2 := st.a.cell 2
  have q3 := st.a.cell 3
  have q4 := st.a.cell 4
  have q5 := st.a.cell 5
  simp at q0 q1 q2 q3 q4 q5
  have hglb := st.b.lt
  have Hst := hide st
  clear st
  go_wp2_with fail
  refine (HR.out W Hst.out.below).mono ?_
  rintro e w2 ⟨x', y', z', rfl, ha, hb2⟩
  have st2 := Hst.out.call hb2
  have r0 := st2.b.cell 0
  have r1 := st2.b.cell 1
  have r2 := st2.b.cell 2
  simp at r0 r1 r2
  have hgl2 := st2.b.lt
  have fzb := st2.b.free
  have H2 := hide (And.intro st2 ha)
  clear st2 ha hb2 HR q0 q1 q2 q3 q4 q5
  go_wp2
  exact res_retN rfl _ HFw.out hglb H2.out.1.b H2.out.1.below H2.out.2 rfl rfl

/-- new memory above a block, but for one that may have been made -/
def FrO (B : Nat) (og : Option Nat) (W : World) : Nat → Prop := fun b => B < b ∧ some b ≠ og ∧ b < W.heap.size
theorem FrO.new {B : Nat} {og : Option Nat} {W W' : World} (hB : B < W.heap.size) (ho : ∀ g, og = some g → g < W.heap.size) : ∀ b, Fr W.heap.size W' b → FrO B og W' b := fun b hb => ⟨by have := hb.1; omega, fun e => by have := ho b e.symm; have := hb.1; omega, hb.2⟩
theorem FrO.up {B : Nat} {og : Option Nat} {W W' : World} (h : W.heap.size ≤ W'.heap.size) : ∀ b, FrO B og W b → FrO B og W' b := fun b hb => ⟨hb.1, hb.2.1, Nat.lt_of_lt_of_le hb.2.2 h⟩
theorem FrO.past {B g : Nat} {W W' : World} (hg : W.heap.size = g) (h : W.heap.size ≤ W'.heap.size) : ∀ b, FrO B none W b → FrO B (some g) W' b := fun b hb => ⟨hb.1, fun e => by cases e; have := hb.2.2; omega, Nat.lt_of_lt_of_le hb.2.2 h⟩

theorem Q3.set3_ {w W : World} {ta tb tc : TypeId} {a b c : Array Value} (h : Q3 w ta tb tc a b c W) {g : Nat} (hg : w.heap.size + 1 + 1 < g) (c0 c1 c2 : Value) : Q3 w ta tb tc a b c (set3 W g c0 c1 c2) :=
  ⟨set3_below _ _ _ h.below (by omega), (set3_heap _ _ _ _ _ _ (by omega)).trans h.a, (set3_heap _ _ _ _ _ _ (by omega)).trans h.b, (set3_heap _ _ _ _ _ _ (by omega)).trans h.c⟩
theorem cut_end {w W : World} {ta tb tc : TypeId} {a b c : Array Value} {g : Nat} {p : P} {a0 a1 a2 x y z : Value} (st : Q3 w ta tb tc a b c W) (hgB : Bk W g 92 #[a0, a1, a2]) (hg : w.heap.size + 1 + 1 < g) (hp : PAt (FrO (w.heap.size + 1 + 1) (some g) W) W .atom p [x, y, z]) :
    Q3 w ta tb tc a b c (set3 W g x y z) ∧ Bk (set3 W g x y z) g 92 #[x, y, z] ∧ w.heap.size + 1 + 1 < g ∧ PAt (FrG (w.heap.size + 1 + 1) g (set3 W g x y z)) (set3 W g x y z) .atom p [x, y, z] :=
  ⟨st.set3_ hg _ _ _, set3_same _ _ _ hgB, hg, (hp.keeps fun b hb => set3_heap _ _ _ _ _ _ (fun e => hb.2.1 (by rw [e]))).mono fun b hb => ⟨hb.1, fun e => hb.2.1 (by rw [e]), by rw [set3_size]; exact hb.2.2⟩⟩

set_option maxRecDepth 100000 in
set_option maxHeartbeats 8000000 in
theorem implResolve_calls {ts : List Ytekaainjpddklaa.S} {r : Ytekaainjpddklaa.S} {o : Option P} {TA : Option Addr} {tc : Nat} {w : World} {cs : List Value} (h : SchS (Old w) w ts TA tc) (hr : SAt (Old w) w .ref r cs) (hok : ResOK (ts.map Ytekaainjpddklaa.S.plain) r.plain o) :
    Calls Try.prog 27 #[.agg #[.slice TA ts.length tc], .agg cs.toArray] w (NamedPost o w) := by
  have HS := hide fun (W : World) (hb : Below w.heap.size w W) => toSchema_calls (h.at_ hb)
  have HTR := hide fun (W : World) (hb : Below w.heap.size w W) => toRef_calls (hr.at_ hb)
  have HR := hide hok
  generalize r.plain = rp at *
  generalize ts.map Ytekaainjpddklaa.S.plain = ps at *
  obtain ⟨b0, n0, s0, LA, ln, lc, MA, mn, mc, s1, rfl⟩ := hr.ref_form
  clear h hr hok
  generalize ts.length = tn at *
  go_enter Try.func27, Try.ntmps27
  go_upto_region 1 with fail
  have st := Q3.made w 33 51 38 #[.slice TA tn tc] #[.bool b0, .string n0, .string s0, .slice LA ln lc, .slice MA mn mc, .string s1] #[.string ⟨#[]⟩, .slice none 0 0, .slice none 0 0]
  generalize World.alloc (World.alloc (World.alloc w _) _) _ = W at st ⊢
  have Hst := hide st
  obtain ⟨S, hS⟩ : ∃ S, (fun W => Bk W w.heap.size 33 #[.slice TA tn tc] ∧ Bk W (w.heap.size + 1) 51 #[.bool b0, .string n0, .string s0, .slice LA ln lc, .slice MA mn mc, .string s1]) = S := ⟨_, rfl⟩
  have HSs := hide (show ∀ W', Q3 w 33 51 38 #[.slice TA tn tc] #[.bool b0, .string n0, .string s0, .slice LA ln lc, .slice MA mn mc, .string s1] #[.string ⟨#[]⟩, .slice none 0 0, .slice none 0 0] W' → S W' from fun W' h => by rw [← hS]; exact ⟨h.a, h.b⟩)
  go_cut [6, 7] (fun s6 s7 wx => ∃ (g : Nat) (x y z : Option Addr), s6 = .pointer (some ⟨g, 0, none⟩) ∧ s7 = .bool o.isSome ∧ Q3 w 33 51 38 #[.slice TA tn tc] #[.bool b0, .string n0, .string s0, .slice LA ln lc, .slice MA mn mc, .string s1] #[.string ⟨#[]⟩, .slice none 0 0, .slice none 0 0] wx ∧ Bk wx g 92 #[.pointer x, .pointer y, .pointer z] ∧ w.heap.size + 1 + 1 < g ∧ PAt (FrG (w.heap.size + 1 + 1) g wx) wx .atom (o.getD P.empty) [.pointer x, .pointer y, .pointer z])
  case first =>
    have hS0 : S W.drew := HSs.out _ (Hst.out.call (below_drew (Below.refl _ _)))
    refine wp_region_head 10 S (by rfl) (by kernel_rfl) ?_
    refine HT.take 0 (v := ?_) rfl (by kernel_rfl) (fun _ _ _ h => h) (Or.inl ⟨by rfl, ?_⟩) (by assumption) ?_
    rotate_left
    · intro W hSw; rw [← hS] at hSw; have hSw := show Bk W w.heap.size 33 #[.slice TA tn tc] ∧ Bk W (w.heap.size + 1) 51 #[.bool b0, .string n0, .string s0, .slice LA ln lc, .slice MA mn mc, .string s1] from hSw; have s0' := hSw.1.cell 0; have t0 := hSw.2.cell 0; have t1 := hSw.2.cell 1; have t2 := hSw.2.cell 2; have t3 := hSw.2.cell 3; have t4 := hSw.2.cell 4; have t5 := hSw.2.cell 5; clear hSw; simp at s0' t0 t1 t2 t3 t4 t5; go_simp; with_reducible rfl
    simp only [Act.put, List.setIfInBounds_toArray, List.set_cons_zero, List.set_cons_succ]
    refine HT.take 2 (v := ?_) rfl (by kernel_rfl) (fun _ _ _ h => h) (Or.inl ⟨by rfl, ?_⟩) (by assumption) ?_
    rotate_left
    · intro W hSw; rw [← hS] at hSw; have hSw := show Bk W w.heap.size 33 #[.slice TA tn tc] ∧ Bk W (w.heap.size + 1) 51 #[.bool b0, .string n0, .string s0, .slice LA ln lc, .slice MA mn mc, .string s1] from hSw; have s0' := hSw.1.cell 0; have t0 := hSw.2.cell 0; have t1 := hSw.2.cell 1; have t2 := hSw.2.cell 2; have t3 := hSw.2.cell 3; have t4 := hSw.2.cell 4; have t5 := hSw.2.cell 5; clear hSw; simp at s0' t0 t1 t2 t3 t4 t5; go_simp; with_reducible rfl
    simp only [Act.put, List.setIfInBounds_toArray, List.set_cons_zero, List.set_cons_succ]
    have st := Hst.out.call (below_drew (Below.refl _ _))
    have st0 := st.c
    refine HT.two 1 8 rfl rfl (by kernel_rfl) (by rfl) (by rfl) (fun K hK => ?_) (fun K hK => ?_)
    · clear st0
      go_simp
      refine (HS.out W.drew st.below).mono ?_
      rintro e V1 ⟨g1, SA, SC, rfl, hg1, hSB, hSP, hb⟩
      replace hSP := hSP.mono (G := FrO (w.heap.size + 1 + 1) none V1) (FrO.new st.c.lt (fun g' e => by cases e))
      have hg1 := FrO.new (B := (w.heap.size + 1 + 1)) (og := none) st.c.lt (fun g' e => by cases e) _ hg1
      replace st := st.call hb
      clear hb
      go_simp
      refine hK.out _ _ (HSs.out _ st) ?_
      clear hK
      have st0 := st.c
      refine HT.two 3 8 rfl rfl (by kernel_rfl) (by rfl) (by rfl) (fun K hK => ?_) (fun K hK => ?_)
      · clear st0
        go_simp
        refine (HTR.out V1 st.below).mono ?_
        rintro e V2 ⟨es, rfl, hTP, hb⟩
        replace hTP := hTP.mono (G := FrO (w.heap.size + 1 + 1) none V2) (FrO.new st.c.lt (fun g' e => by cases e))
        replace hSB := hSB.below hb hSB.lt
        replace hSP := (hSP.keeps (Keeps.below hb fun b hb => hb.2.2)).mono (G := FrO (w.heap.size + 1 + 1) none V2) (FrO.up hb.size)
        replace hg1 := FrO.up hb.size _ hg1
        obtain ⟨x0, x1, x2, x3, x4, rfl⟩ := hTP.ref_form
        replace st := st.call hb
        clear hb
        go_simp
        refine hK.out _ _ (HSs.out _ st) ?_
        clear hK
        have st0 := st.c
        refine HT.two 4 8 rfl rfl (by kernel_rfl) (by rfl) (by rfl) (fun K hK => ?_) (fun K hK => ?_)
        · clear st0
          go_simp
          refine (HR.out (FrO (w.heap.size + 1 + 1) none V2) SA SC g1 V2 _ (fun b hb => hb.2.2) hg1.2.2 hSB hSP hTP).mono ?_
          rintro e V3 ⟨x, y, z, rfl, hRP, hb⟩
          clear hSB hSP hg1 hTP
          replace hRP := hRP.mono (G := FrO (w.heap.size + 1 + 1) none V3) (fun b hb' => hb'.elim (FrO.up hb.size _) (FrO.new st.c.lt (fun g' e => by cases e) _))
          replace st := st.call hb
          clear hb
          go_simp
          refine hK.out _ _ (HSs.out _ st) ?_
          clear hK
          have hSn := HSs.out _ st
          refine HT.take 5 (v := ?_) rfl (by kernel_rfl) (fun _ _ _ h => h) (Or.inl ⟨by rfl, ?_⟩) (by assumption) ?_
          rotate_left
          · intro W hSw; go_simp; with_reducible rfl
          simp only [Act.put, List.setIfInBounds_toArray, List.set_cons_zero, List.set_cons_succ]
          refine HT.take 6 (v := ?_) rfl (by kernel_rfl) (fun _ _ _ h => h) (Or.inl ⟨by rfl, ?_⟩) (by assumption) ?_
          rotate_left
          · intro W hSw; go_simp; with_reducible rfl
          simp only [Act.put, List.setIfInBounds_toArray, List.set_cons_zero, List.set_cons_succ]
          refine HT.take 7 (v := ?_) rfl (by kernel_rfl) (fun _ _ _ h => h) (Or.inl ⟨by rfl, ?_⟩) (by assumption) ?_
          rotate_left
          · intro W hSw; go_simp; with_reducible rfl
          simp only [Act.put, List.setIfInBounds_toArray, List.set_cons_zero, List.set_cons_succ]
          clear hSn
          have st0 := st.c
          refine HT.one 8 rfl (by kernel_rfl) (by rfl) (fun K hK => ?_)
          go_simp
          have hbA : Below V3.heap.size V3 (V3.alloc (.cells #[.pointer none, .pointer none, .pointer none] 92)) := show Below V3.heap.size V3 (V3.alloc (.cells #[.pointer none, .pointer none, .pointer none] 92)) from (Below.refl _ _).alloc (Nat.le_refl _) _
          replace st := st.call hbA
          have hgB : Bk (V3.alloc (.cells #[.pointer none, .pointer none, .pointer none] 92)) V3.heap.size 92 #[.pointer none, .pointer none, .pointer none] := Bk.new V3 92 #[.pointer none, .pointer none, .pointer none]
          obtain ⟨g, hg⟩ : ∃ g, V3.heap.size = g := ⟨_, rfl⟩
          have hgw : w.heap.size + 1 + 1 < g := by have h : w.heap.size + 1 + 1 < V3.heap.size := st0.lt; omega
          replace hRP := (hRP.keeps (Keeps.below hbA fun b hb => hb.2.2)).mono (G := FrO (w.heap.size + 1 + 1) (some g) (V3.alloc (.cells #[.pointer none, .pointer none, .pointer none] 92))) (FrO.past hg hbA.size)
          clear hbA st0
          rw [hg] at hgB ⊢
          generalize (V3.alloc (.cells #[.pointer none, .pointer none, .pointer none] 92)) = V4 at st hgB hRP ⊢
          refine hK.out _ _ (HSs.out _ st) ?_
          clear hK hg
          have k0 := hgB.cell 0
          have k1 := hgB.cell 1
          have k2 := hgB.cell 2
          simp at k0 k1 k2
          have hgl := hgB.lt
          have fzg := hgB.free
          have Hfin := hide (And.intro st (And.intro hgB (And.intro hgw hRP)))
          clear st hgB hRP
          refine HT.one 9 rfl (by kernel_rfl) (by rfl) (fun K hK => ?_)
          go_simp
          refine hK.out _ _ (HSs.out _ (Hfin.out.1.set3_ Hfin.out.2.2.1 (.pointer x) (.pointer y) (.pointer z))) ?_
          clear hK
          refine HT.done (by kernel_rfl) ?_
          simp only [List.drop_succ_cons, List.drop_zero]
          clear k0 k1 k2
          go_wp2_with fail
          go_meet
          exact ⟨g, x, y, z, rfl, rfl, cut_end Hfin.out.1 Hfin.out.2.1 Hfin.out.2.2.1 Hfin.out.2.2.2⟩
        · go_simp
          have hbA : Below V2.heap.size V2 (V2.alloc (.cells #[.pointer none, .pointer none, .pointer none] 92)) := show Below V2.heap.size V2 (V2.alloc (.cells #[.pointer none, .pointer none, .pointer none] 92)) from (Below.refl _ _).alloc (Nat.le_refl _) _
          replace st := st.call hbA
          have hgB : Bk (V2.alloc (.cells #[.pointer none, .pointer none, .pointer none] 92)) V2.heap.size 92 #[.pointer none, .pointer none, .pointer none] := Bk.new V2 92 #[.pointer none, .pointer none, .pointer none]
          obtain ⟨g, hg⟩ : ∃ g, V2.heap.size = g := ⟨_, rfl⟩
          have hgw : w.heap.size + 1 + 1 < g := by have h : w.heap.size + 1 + 1 < V2.heap.size := st0.lt; omega
          replace hSB := hSB.below hbA hSB.lt
          replace hSP := (hSP.keeps (Keeps.below hbA fun b hb => hb.2.2)).mono (G := FrO (w.heap.size + 1 + 1) (some g) (V2.alloc (.cells #[.pointer none, .pointer none, .pointer none] 92))) (FrO.past hg hbA.size)
          replace hg1 := FrO.past hg hbA.size _ hg1
          replace hTP := (hTP.keeps (Keeps.below hbA fun b hb => hb.2.2)).mono (G := FrO (w.heap.size + 1 + 1) (some g) (V2.alloc (.cells #[.pointer none, .pointer none, .pointer none] 92))) (FrO.past hg hbA.size)
          clear hbA st0
          rw [hg] at hgB ⊢
          generalize (V2.alloc (.cells #[.pointer none, .pointer none, .pointer none] 92)) = V3 at st hgB hSB hSP hg1 hTP ⊢
          refine hK.out _ _ (HSs.out _ st) ?_
          clear hK hg
          refine HT.one 4 rfl (by kernel_rfl) (by rfl) (fun K hK => ?_)
          go_simp
          refine (HR.out (FrO (w.heap.size + 1 + 1) (some g) V3) SA SC g1 V3 _ (fun b hb => hb.2.2) hg1.2.2 hSB hSP hTP).mono ?_
          rintro e V4 ⟨x, y, z, rfl, hRP, hb⟩
          clear hSB hSP hg1 hTP
          replace hRP := hRP.mono (G := FrO (w.heap.size + 1 + 1) (some g) V4) (fun b hb' => hb'.elim (FrO.up hb.size _) (FrO.new st.c.lt (fun g' e => by cases e; exact hgB.lt) _))
          replace st := st.call hb
          replace hgB := hgB.below hb hgB.lt
          clear hb
          go_simp
          refine hK.out _ _ (HSs.out _ st) ?_
          clear hK
          have hSn := HSs.out _ st
          refine HT.take 5 (v := ?_) rfl (by kernel_rfl) (fun _ _ _ h => h) (Or.inl ⟨by rfl, ?_⟩) (by assumption) ?_
          rotate_left
          · intro W hSw; go_simp; with_reducible rfl
          simp only [Act.put, List.setIfInBounds_toArray, List.set_cons_zero, List.set_cons_succ]
          refine HT.take 6 (v := ?_) rfl (by kernel_rfl) (fun _ _ _ h => h) (Or.inl ⟨by rfl, ?_⟩) (by assumption) ?_
          rotate_left
          · intro W hSw; go_simp; with_reducible rfl
          simp only [Act.put, List.setIfInBounds_toArray, List.set_cons_zero, List.set_cons_succ]
          refine HT.take 7 (v := ?_) rfl (by kernel_rfl) (fun _ _ _ h => h) (Or.inl ⟨by rfl, ?_⟩) (by assumption) ?_
          rotate_left
          · intro W hSw; go_simp; with_reducible rfl
          simp only [Act.put, List.setIfInBounds_toArray, List.set_cons_zero, List.set_cons_succ]
          clear hSn
          have k0 := hgB.cell 0
          have k1 := hgB.cell 1
          have k2 := hgB.cell 2
          simp at k0 k1 k2
          have hgl := hgB.lt
          have fzg := hgB.free
          have Hfin := hide (And.intro st (And.intro hgB (And.intro hgw hRP)))
          clear st hgB hRP
          refine HT.one 9 rfl (by kernel_rfl) (by rfl) (fun K hK => ?_)
          go_simp
          refine hK.out _ _ (HSs.out _ (Hfin.out.1.set3_ Hfin.out.2.2.1 (.pointer x) (.pointer y) (.pointer z))) ?_
          clear hK
          refine HT.done (by kernel_rfl) ?_
          simp only [List.drop_succ_cons, List.drop_zero]
          clear k0 k1 k2
          go_wp2_with fail
          go_meet
          exact ⟨g, x, y, z, rfl, rfl, cut_end Hfin.out.1 Hfin.out.2.1 Hfin.out.2.2.1 Hfin.out.2.2.2⟩
      · go_simp
        have hbA : Below V1.heap.size V1 (V1.alloc (.cells #[.pointer none, .pointer none, .pointer none] 92)) := show Below V1.heap.size V1 (V1.alloc (.cells #[.pointer none, .pointer none, .pointer none] 92)) from (Below.refl _ _).alloc (Nat.le_refl _) _
        replace st := st.call hbA
        have hgB : Bk (V1.alloc (.cells #[.pointer none, .pointer none, .pointer none] 92)) V1.heap.size 92 #[.pointer none, .pointer none, .pointer none] := Bk.new V1 92 #[.pointer none, .pointer none, .pointer none]
        obtain ⟨g, hg⟩ : ∃ g, V1.heap.size = g := ⟨_, rfl⟩
        have hgw : w.heap.size + 1 + 1 < g := by have h : w.heap.size + 1 + 1 < V1.heap.size := st0.lt; omega
        replace hSB := hSB.below hbA hSB.lt
        replace hSP := (hSP.keeps (Keeps.below hbA fun b hb => hb.2.2)).mono (G := FrO (w.heap.size + 1 + 1) (some g) (V1.alloc (.cells #[.pointer none, .pointer none, .pointer none] 92))) (FrO.past hg hbA.size)
        replace hg1 := FrO.past hg hbA.size _ hg1
        clear hbA st0
        rw [hg] at hgB ⊢
        generalize (V1.alloc (.cells #[.pointer none, .pointer none, .pointer none] 92)) = V2 at st hgB hSB hSP hg1 ⊢
        refine hK.out _ _ (HSs.out _ st) ?_
        clear hK hg
        refine HT.one 3 rfl (by kernel_rfl) (by rfl) (fun K hK => ?_)
        go_simp
        refine (HTR.out V2 st.below).mono ?_
        rintro e V3 ⟨es, rfl, hTP, hb⟩
        replace hTP := hTP.mono (G := FrO (w.heap.size + 1 + 1) (some g) V3) (FrO.new st.c.lt (fun g' e => by cases e; exact hgB.lt))
        replace hSB := hSB.below hb hSB.lt
        replace hSP := (hSP.keeps (Keeps.below hb fun b hb => hb.2.2)).mono (G := FrO (w.heap.size + 1 + 1) (some g) V3) (FrO.up hb.size)
        replace hg1 := FrO.up hb.size _ hg1
        obtain ⟨x0, x1, x2, x3, x4, rfl⟩ := hTP.ref_form
        replace st := st.call hb
        replace hgB := hgB.below hb hgB.lt
        clear hb
        go_simp
        refine hK.out _ _ (HSs.out _ st) ?_
        clear hK
        refine HT.one 4 rfl (by kernel_rfl) (by rfl) (fun K hK => ?_)
        go_simp
        refine (HR.out (FrO (w.heap.size + 1 + 1) (some g) V3) SA SC g1 V3 _ (fun b hb => hb.2.2) hg1.2.2 hSB hSP hTP).mono ?_
        rintro e V4 ⟨x, y, z, rfl, hRP, hb⟩
        clear hSB hSP hg1 hTP
        replace hRP := hRP.mono (G := FrO (w.heap.size + 1 + 1) (some g) V4) (fun b hb' => hb'.elim (FrO.up hb.size _) (FrO.new st.c.lt (fun g' e => by cases e; exact hgB.lt) _))
        replace st := st.call hb
        replace hgB := hgB.below hb hgB.lt
        clear hb
        go_simp
        refine hK.out _ _ (HSs.out _ st) ?_
        clear hK
        have hSn := HSs.out _ st
        refine HT.take 5 (v := ?_) rfl (by kernel_rfl) (fun _ _ _ h => h) (Or.inl ⟨by rfl, ?_⟩) (by assumption) ?_
        rotate_left
        · intro W hSw; go_simp; with_reducible rfl
        simp only [Act.put, List.setIfInBounds_toArray, List.set_cons_zero, List.set_cons_succ]
        refine HT.take 6 (v := ?_) rfl (by kernel_rfl) (fun _ _ _ h => h) (Or.inl ⟨by rfl, ?_⟩) (by assumption) ?_
        rotate_left
        · intro W hSw; go_simp; with_reducible rfl
        simp only [Act.put, List.setIfInBounds_toArray, List.set_cons_zero, List.set_cons_succ]
        refine HT.take 7 (v := ?_) rfl (by kernel_rfl) (fun _ _ _ h => h) (Or.inl ⟨by rfl, ?_⟩) (by assumption) ?_
        rotate_left
        · intro W hSw; go_simp; with_reducible rfl
        simp only [Act.put, List.setIfInBounds_toArray, List.set_cons_zero, List.set_cons_succ]
        clear hSn
        have k0 := hgB.cell 0
        have k1 := hgB.cell 1
        have k2 := hgB.cell 2
        simp at k0 k1 k2
        have hgl := hgB.lt
        have fzg := hgB.free
        have Hfin := hide (And.intro st (And.intro hgB (And.intro hgw hRP)))
        clear st hgB hRP
        refine HT.one 9 rfl (by kernel_rfl) (by rfl) (fun K hK => ?_)
        go_simp
        refine hK.out _ _ (HSs.out _ (Hfin.out.1.set3_ Hfin.out.2.2.1 (.pointer x) (.pointer y) (.pointer z))) ?_
        clear hK
        refine HT.done (by kernel_rfl) ?_
        simp only [List.drop_succ_cons, List.drop_zero]
        clear k0 k1 k2
        go_wp2_with fail
        go_meet
        exact ⟨g, x, y, z, rfl, rfl, cut_end Hfin.out.1 Hfin.out.2.1 Hfin.out.2.2.1 Hfin.out.2.2.2⟩
    · go_simp
      have hbA : Below W.heap.size W.drew (W.alloc (.cells #[.pointer none, .pointer none, .pointer none] 92)).drew := show Below W.drew.heap.size W.drew (W.drew.alloc (.cells #[.pointer none, .pointer none, .pointer none] 92)) from (Below.refl _ _).alloc (Nat.le_refl _) _
      replace st := st.call hbA
      have hgB : Bk (W.alloc (.cells #[.pointer none, .pointer none, .pointer none] 92)).drew W.heap.size 92 #[.pointer none, .pointer none, .pointer none] := Bk.new W.drew 92 #[.pointer none, .pointer none, .pointer none]
      obtain ⟨g, hg⟩ : ∃ g, W.heap.size = g := ⟨_, rfl⟩
      have hgw : w.heap.size + 1 + 1 < g := by have h : w.heap.size + 1 + 1 < W.heap.size := st0.lt; omega
      clear hbA st0
      rw [hg] at hgB ⊢
      generalize (W.alloc (.cells #[.pointer none, .pointer none, .pointer none] 92)).drew = V1 at st hgB ⊢
      refine hK.out _ _ (HSs.out _ st) ?_
      clear hK hg
      refine HT.one 1 rfl (by kernel_rfl) (by rfl) (fun K hK => ?_)
      go_simp
      refine (HS.out V1 st.below).mono ?_
      rintro e V2 ⟨g1, SA, SC, rfl, hg1, hSB, hSP, hb⟩
      replace hSP := hSP.mono (G := FrO (w.heap.size + 1 + 1) (some g) V2) (FrO.new st.c.lt (fun g' e => by cases e; exact hgB.lt))
      have hg1 := FrO.new (B := (w.heap.size + 1 + 1)) (og := (some g)) st.c.lt (fun g' e => by cases e; exact hgB.lt) _ hg1
      replace st := st.call hb
      replace hgB := hgB.below hb hgB.lt
      clear hb
      go_simp
      refine hK.out _ _ (HSs.out _ st) ?_
      clear hK
      refine HT.one 3 rfl (by kernel_rfl) (by rfl) (fun K hK => ?_)
      go_simp
      refine (HTR.out V2 st.below).mono ?_
      rintro e V3 ⟨es, rfl, hTP, hb⟩
      replace hTP := hTP.mono (G := FrO (w.heap.size + 1 + 1) (some g) V3) (FrO.new st.c.lt (fun g' e => by cases e; exact hgB.lt))
      replace hSB := hSB.below hb hSB.lt
      replace hSP := (hSP.keeps (Keeps.below hb fun b hb => hb.2.2)).mono (G := FrO (w.heap.size + 1 + 1) (some g) V3) (FrO.up hb.size)
      replace hg1 := FrO.up hb.size _ hg1
      obtain ⟨x0, x1, x2, x3, x4, rfl⟩ := hTP.ref_form
      replace st := st.call hb
      replace hgB := hgB.below hb hgB.lt
      clear hb
      go_simp
      refine hK.out _ _ (HSs.out _ st) ?_
      clear hK
      refine HT.one 4 rfl (by kernel_rfl) (by rfl) (fun K hK => ?_)
      go_simp
      refine (HR.out (FrO (w.heap.size + 1 + 1) (some g) V3) SA SC g1 V3 _ (fun b hb => hb.2.2) hg1.2.2 hSB hSP hTP).mono ?_
      rintro e V4 ⟨x, y, z, rfl, hRP, hb⟩
      clear hSB hSP hg1 hTP
      replace hRP := hRP.mono (G := FrO (w.heap.size + 1 + 1) (some g) V4) (fun b hb' => hb'.elim (FrO.up hb.size _) (FrO.new st.c.lt (fun g' e => by cases e; exact hgB.lt) _))
      replace st := st.call hb
      replace hgB := hgB.below hb hgB.lt
      clear hb
      go_simp
      refine hK.out _ _ (HSs.out _ st) ?_
      clear hK
      have hSn := HSs.out _ st
      refine HT.take 5 (v := ?_) rfl (by kernel_rfl) (fun _ _ _ h => h) (Or.inl ⟨by rfl, ?_⟩) (by assumption) ?_
      rotate_left
      · intro W hSw; go_simp; with_reducible rfl
      simp only [Act.put, List.setIfInBounds_toArray, List.set_cons_zero, List.set_cons_succ]
      refine HT.take 6 (v := ?_) rfl (by kernel_rfl) (fun _ _ _ h => h) (Or.inl ⟨by rfl, ?_⟩) (by assumption) ?_
      rotate_left
      · intro W hSw; go_simp; with_reducible rfl
      simp only [Act.put, List.setIfInBounds_toArray, List.set_cons_zero, List.set_cons_succ]
      refine HT.take 7 (v := ?_) rfl (by kernel_rfl) (fun _ _ _ h => h) (Or.inl ⟨by rfl, ?_⟩) (by assumption) ?_
      rotate_left
      · intro W hSw; go_simp; with_reducible rfl
      simp only [Act.put, List.setIfInBounds_toArray, List.set_cons_zero, List.set_cons_succ]
      clear hSn
      have k0 := hgB.cell 0
      have k1 := hgB.cell 1
      have k2 := hgB.cell 2
      simp at k0 k1 k2
      have hgl := hgB.lt
      have fzg := hgB.free
      have Hfin := hide (And.intro st (And.intro hgB (And.intro hgw hRP)))
      clear st hgB hRP
      refine HT.one 9 rfl (by kernel_rfl) (by rfl) (fun K hK => ?_)
      go_simp
      refine hK.out _ _ (HSs.out _ (Hfin.out.1.set3_ Hfin.out.2.2.1 (.pointer x) (.pointer y) (.pointer z))) ?_
      clear hK
      refine HT.done (by kernel_rfl) ?_
      simp only [List.drop_succ_cons, List.drop_zero]
      clear k0 k1 k2
      go_wp2_with fail
      go_meet
      exact ⟨g, x, y, z, rfl, rfl, cut_end Hfin.out.1 Hfin.out.2.1 Hfin.out.2.2.1 Hfin.out.2.2.2⟩
  case rest =>
    obtain ⟨g, x, y, z, rfl, rfl, hq, hG, hgw, hp⟩ := hcut
    have k0 := hG.cell 0
    have k1 := hG.cell 1
    have k2 := hG.cell 2
    simp at k0 k1 k2
    have hgl := hG.lt
    have HF := hide (fromAtom_calls (hp.mono (G := Old _) fun b hb => hb.2.2))
    have Hq := hide hq
    clear hq hG hp Hst HS HTR HR HSs
    go_wp2_with fail
    refine HF.out.mono ?_
    rintro e w4 ⟨s, cs, hs, rfl, hat, hb4⟩
    obtain ⟨f0, f1, f2, f3, f4, f5, f6, rfl⟩ := hat.atom_form
    have st4 := Hq.out.call hb4
    have hlt4 := Hq.out.c.lt
    have hv : SAt (FrN w.heap.size (w.heap.size + 1 + 1) w4) w4 .atom s [.string f0, .slice f1 f2 f3, .slice f4 f5 f6] := hat.mono fun b hb => ⟨by have := hb.1; omega, by have := hb.1; omega, hb.2⟩
    have hgl := st4.c.lt
    have fzb := st4.c.free
    have r0 := st4.c.cell 0
    have r1 := st4.c.cell 1
    have r2 := st4.c.cell 2
    simp at r0 r1 r2
    have H4 := hide (And.intro st4 (And.intro hs hv))
    clear st4 hs hv hat hb4 HF Hq
    go_wp2
    exact named_ret rfl _ H4.out.2.1 (by omega) H4.out.1.c H4.out.1.below H4.out.2.2 rfl rfl

end Go.Proofs.Ytekaainjpddklaa
