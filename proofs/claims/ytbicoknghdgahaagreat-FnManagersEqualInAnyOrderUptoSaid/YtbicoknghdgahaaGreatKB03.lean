/- Parts: Spec. -/
import Derived.Test.YtbicoknghdgahaaGreatKA10
import Derived.Test.YtbicoknghdgahaaGreatKB02
set_option linter.unusedVariables false
set_option linter.unusedSimpArgs false
namespace Go.Proofs.YtbicoknghdgahaaGreat

end Go.Proofs.YtbicoknghdgahaaGreat

namespace Go.Proofs.YtbicoknghdgahaaGreat
open Go.RowKit
attribute [local go_sem] run_store_float

end Go.Proofs.YtbicoknghdgahaaGreat

namespace Go.Proofs.YtbicoknghdgahaaGreat
open Go.RowKit
attribute [local go_sem] run_store_float

def found {α : Type} (k : ByteArray) (l : List (ByteArray × α)) : Bool := decide ((l[cnt k l]?).map Prod.fst = some k)

set_option maxRecDepth 100000 in
set_option maxHeartbeats 1000000 in
theorem fieldIndex_calls {α : Type} (l : List (ByteArray × α)) (hs : Sorted l) (kind n : Int) (f : Nat) (s k : ByteArray) (KA : Option Addr) (kc : Nat) (lv : Value) (w : World) (hl : l.length * 16 ≤ R47) (hrow : Row (Old w) w 1 KA l.length (l.map fun p => Value.string p.1)) :
  Calls Tryz.prog 96 #[.agg #[.int .i64 kind, .int .i64 n, .float .f64 f, .string s, .slice KA l.length kc, lv], .string k] w fun e w' =>
   e = .returned (.tuple #[.int .i64 (cnt k l : Nat), .bool (found k l)]) ∧ Below w.heap.size w w' := by
 have hll : l.length ≤ 8796093022208 := by unfold R47 at hl; omega
 have HR := hide hrow
 have HS := hide hs
 clear hl hrow hs
 have hcl := cnt_le k l
 go_enter Tryz.func96, Tryz.ntmps96
 go_wp2
 go_quiet (fail)
 go_wp2
 go_loop [6, 7] (fun lo hi => ∃ a b : Nat, a ≤ cnt k l ∧ cnt k l ≤ b ∧ b ≤ l.length ∧ lo = .int .i64 a ∧ hi = .int .i64 b) (fun lo hi => (intOf hi).toNat - (intOf lo).toNat)
 case atStart => exact ⟨0, l.length, Nat.zero_le _, hcl, Nat.le_refl _, rfl, rfl⟩
 case round =>
  obtain ⟨a, b, ha, hb, hbl, rfl, rfl⟩ := hrel
  by_cases hab : a < b
  ·obtain ⟨m, hm, hm1, hm2⟩ : ∃ m : Nat, (a : Int) + ((b : Int) - (a : Int)) / 2 = (m : Int) ∧ a ≤ m ∧ m < b := ⟨a + (b - a) / 2, by omega, by omega, by omega⟩
   have hml : m < l.length := by omega
   obtain ⟨kb, ko, rfl, hF, hc⟩ := row1_at (u := Value.string (l[m]).1) HR.out hml (by simp [hml])
   have hF' : kb < w.heap.size := hF
   have hiff := hide (cnt_lt (k := k) HS.out m hml)
   generalize (l[m]).1 = km at hc hiff
   cases hlt : Op.bytesLess km.toList k.toList
   ·have hge : cnt k l ≤ m := by
     have := hiff.out
     unfold klt at this
     rw [hlt] at this
     simp at this
     omega
    go_wp2
    go_round
    case rel => exact ⟨a, m, ha, hge, by omega, rfl, rfl⟩
    case measure => simp [intOf]; omega
   ·have hge : m + 1 ≤ cnt k l := by
     have := hiff.out
     unfold klt at this
     rw [hlt] at this
     simp at this
     omega
    go_wp2
    go_round
    case rel => exact ⟨m + 1, b, hge, hb, hbl, by go_num, rfl⟩
    case measure => simp [intOf]; omega
  ·have e1 : a = cnt k l := by omega
   subst e1
   have Hf := hide (show found k l = decide ((l[cnt k l]?).map Prod.fst = some k) from rfl)
   generalize hcc : cnt k l = c at *
   have Hcc := hide hcc
   clear hcc
   have hbelow : ∀ o : Obj, ∀ q q', Below w.heap.size w (((w.alloc o).drewN q).drewN q') := fun o q q' => ⟨rfl, rfl, rfl, by simp, fun i hi => Below.heap_alloc w o i hi⟩
   by_cases hcl' : c < l.length
   ·obtain ⟨kb, ko, rfl, hF, hc⟩ := row1_at (u := Value.string (l[c]).1) HR.out hcl' (by simp [hcl'])
    have hF' : kb < w.heap.size := hF
    have hci : (c : Int) < (l.length : Int) := by omega
    have hfd : found k l = (((l[c]).1).toList == k.toList) := by
     rw [Hf.out, List.getElem?_eq_getElem hcl', Bool.eq_iff_iff]
     simp only [Option.map_some, Option.some.injEq, decide_eq_true_eq, beq_iff_eq]
     constructor
     ·intro h; rw [h]
     ·intro h; rw [Lib.toList_data, Lib.toList_data] at h; exact bytes_ext (by simpa using h)
    have HF := hide hfd
    clear hfd
    generalize (l[c]).1 = km at hc HF
    go_wp2
    go_quiet (fail)
    go_wp2
    go_ret2
    exact ⟨by rw [HF.out, Hcc.out]; rfl, hbelow _ _ _⟩
   ·have hci : ¬ (c : Int) < (l.length : Int) := by omega
    have hd : decide ((c : Int) < (l.length : Int)) = false := by simpa using hci
    have hfd : found k l = false := by
     rw [Hf.out, List.getElem?_eq_none (by omega)]; simp
    go_wp2
    go_quiet (fail)
    go_wp2
    go_ret2
    exact ⟨by rw [hfd, Hcc.out]; rfl, hbelow _ _ _⟩

end Go.Proofs.YtbicoknghdgahaaGreat

namespace Go.Proofs.YtbicoknghdgahaaGreat
open Go.RowKit
attribute [local go_sem] run_store_float

theorem str_info : (Tryz.prog.info? 9).map (fun i => (i.zero, i.size, i.bytes)) = some (some (.string ⟨#[]⟩), 1, 16) := by kernel_rfl
theorem val_info : (Tryz.prog.info? 27).map (fun i => (i.zero, i.size, i.bytes)) = some (some (.agg #[.int .i64 0, .int .i64 0, .float .f64 0, .string ⟨#[]⟩, .slice none 0 0, .slice none 0 0]), 6, 88) := by kernel_rfl

structure WF (w0 W : World) (ob : Nat) (mcs vcs rcs : Array Value) (kv lv : Value) (nk nl : Nat) (kxs lxs : List Value) : Prop where
 below : Below w0.heap.size w0 W
 M : Bk W w0.heap.size 27 mcs
 V : Bk W (w0.heap.size + 1) 27 vcs
 R : Bk W (w0.heap.size + 2) 27 rcs
 O : Bk W ob 27 #[.int .i64 6, .int .i64 0, .float .f64 0, .string ⟨#[]⟩, kv, lv]
 ob1 : w0.heap.size + 2 < ob
 K : W.ownsRow (ob + 1) 9 1 kv nk kxs
 L : W.ownsRow (ob + 1) 27 6 lv nl lxs

section
variable {w0 W W' : World} {ob : Nat} {mcs vcs rcs : Array Value} {kv lv kv' lv' : Value} {nk nl nk' nl' : Nat} {kxs lxs kxs' lxs' : List Value}
theorem WF.drew (h : WF w0 W ob mcs vcs rcs kv lv nk nl kxs lxs) : WF w0 W.drew ob mcs vcs rcs kv lv nk nl kxs lxs := ⟨h.below.drew, h.M, h.V, h.R, h.O, h.ob1, h.K, h.L⟩
theorem WF.alloc (h : WF w0 W ob mcs vcs rcs kv lv nk nl kxs lxs) (o : Obj) : WF w0 (W.alloc o) ob mcs vcs rcs kv lv nk nl kxs lxs :=
 ⟨h.below.alloc h.below.size o, h.M.alloc o, h.V.alloc o, h.R.alloc o, h.O.alloc o, h.ob1, h.K.alloc o, h.L.alloc o⟩
theorem WF.keys (h : WF w0 W ob mcs vcs rcs kv lv nk nl kxs lxs) (hg : W.grownBy W' kv.ownBlock) (hk : W'.ownsRow (ob + 1) 9 1 kv' nk' kxs') :
  WF w0 (W'.setCell ⟨ob, 4, none⟩ kv') ob mcs vcs rcs kv' lv nk' nl kxs' lxs := by
 have hKo : ∀ g, kv.ownBlock = some g → ob + 1 ≤ g := fun g e => (h.K.lt g e).1
 have hne : ∀ g, g ≤ ob → some g ≠ kv.ownBlock := fun g hg e => by have := hKo g e.symm; omega
 have o1 := h.ob1
 have hs := h.below.size
 have q : ∀ X : Value, ((W'.setCell ⟨ob, 4, none⟩ X).heap.size = W'.heap.size) := fun X => by simp
 refine ⟨(h.below.grown hg hs (fun g e => by have := hKo g e; omega)).setCell (by simp; omega) _, ((h.M.grown hg (hne _ (by omega))).far (by simp; omega) _), ((h.V.grown hg (hne _ (by omega))).far (by simp; omega) _),
  ((h.R.grown hg (hne _ (by omega))).far (by simp; omega) _), ?_, o1, ownsRow_setCell_below hk (by simp) _, ownsRow_setCell_below (h.L.kept hg ?_) (by simp) _⟩
 ·have := (h.O.grown hg (hne _ (by omega))).set_ 4 kv'
  simpa using this
 ·rcases hr : lv.ownBlock with _ | g
  ·exact .inl rfl
  ·right
   intro e
   rcases h.K.2 with ⟨e1, _⟩ | ⟨gk, cap, cur, e1, _, hh, _⟩
   ·rw [e1] at e; simp [Value.ownBlock] at e
   ·rcases h.L.2 with ⟨e2, _⟩ | ⟨gl, cap', cur', e2, _, hh', _⟩
    ·rw [e2] at hr; simp [Value.ownBlock] at hr
    ·rw [e1] at e
     rw [e2] at hr
     simp [Value.ownBlock] at e hr
     have : gk = gl := by omega
     subst this
     rw [hh] at hh'
     injection hh' with hh'
     injection hh' with _ ht
     exact absurd ht (by decide)
theorem WF.vals (h : WF w0 W ob mcs vcs rcs kv lv nk nl kxs lxs) (hg : W.grownBy W' lv.ownBlock) (hl : W'.ownsRow (ob + 1) 27 6 lv' nl' lxs') :
  WF w0 (W'.setCell ⟨ob, 5, none⟩ lv') ob mcs vcs rcs kv lv' nk nl' kxs lxs' := by
 have hKo : ∀ g, lv.ownBlock = some g → ob + 1 ≤ g := fun g e => (h.L.lt g e).1
 have hne : ∀ g, g ≤ ob → some g ≠ lv.ownBlock := fun g hg e => by have := hKo g e.symm; omega
 have o1 := h.ob1
 have hs := h.below.size
 refine ⟨(h.below.grown hg hs (fun g e => by have := hKo g e; omega)).setCell (by simp; omega) _, ((h.M.grown hg (hne _ (by omega))).far (by simp; omega) _), ((h.V.grown hg (hne _ (by omega))).far (by simp; omega) _),
  ((h.R.grown hg (hne _ (by omega))).far (by simp; omega) _), ?_, o1, ownsRow_setCell_below (h.K.kept hg ?_) (by simp) _, ownsRow_setCell_below hl (by simp) _⟩
 ·have := (h.O.grown hg (hne _ (by omega))).set_ 5 lv'
  simpa using this
 ·rcases hr : kv.ownBlock with _ | g
  ·exact .inl rfl
  ·right
   intro e
   rcases h.L.2 with ⟨e1, _⟩ | ⟨gk, cap, cur, e1, _, hh, _⟩
   ·rw [e1] at e; simp [Value.ownBlock] at e
   ·rcases h.K.2 with ⟨e2, _⟩ | ⟨gl, cap', cur', e2, _, hh', _⟩
    ·rw [e2] at hr; simp [Value.ownBlock] at hr
    ·rw [e1] at e
     rw [e2] at hr
     simp [Value.ownBlock] at e hr
     have : gk = gl := by omega
     subst this
     rw [hh] at hh'
     injection hh' with hh'
     injection hh' with _ ht
     exact absurd ht (by decide)
end

section
variable {w0 W : World} {ob : Nat} {mcs vcs rcs : Array Value} {kv lv : Value} {nk nl : Nat} {kxs lxs : List Value}
theorem WF.reads {k0 k1 k2 k3 k4 k5 : Value} (h : WF w0 W ob #[k0, k1, k2, k3, k4, k5] vcs rcs kv lv nk nl kxs lxs) :
  W.cell? ⟨w0.heap.size, 4, none⟩ = some k4 ∧ W.cell? ⟨w0.heap.size, 5, none⟩ = some k5 ∧ W.cell? ⟨ob, 4, none⟩ = some kv ∧ W.cell? ⟨ob, 5, none⟩ = some lv ∧ w0.heap.size < W.heap.size ∧ ob < W.heap.size :=
 ⟨by simpa using h.M.cell 4, by simpa using h.M.cell 5, by simpa using h.O.cell 4, by simpa using h.O.cell 5, h.M.lt, h.O.lt⟩
theorem WF.stores {W' : World} {row : Option Nat} (h : WF w0 W ob mcs vcs rcs kv lv nk nl kxs lxs) (hg : W.grownBy W' row) (hr : ∀ g, row = some g → ob + 1 ≤ g) :
  W'.cell? ⟨ob, 4, none⟩ = some kv ∧ W'.cell? ⟨ob, 5, none⟩ = some lv ∧ W'.frozen? ⟨ob, 4, none⟩ = false ∧ W'.frozen? ⟨ob, 5, none⟩ = false := by
 have O' := h.O.grown hg (fun e => by have := hr ob e.symm; omega)
 exact ⟨by simpa using O'.cell 4, by simpa using O'.cell 5, O'.free 4, O'.free 5⟩
theorem WF.old {F : Nat → Prop} (h : WF w0 W ob mcs vcs rcs kv lv nk nl kxs lxs) (hF : ∀ b, F b → b < w0.heap.size) : Keeps F w0 W := Keeps.below h.below hF
end

def WithPost (l : List (ByteArray × RV)) (rv : RV) (k : ByteArray) (w : World) (c0 c1 c2 c3 c4 c5 : Value) (xs : List Value) (e : Ending) (w' : World) : Prop :=
 ∃ kv lv ob, e = .returned (.agg #[.int .i64 6, .int .i64 0, .float .f64 0, .string ⟨#[]⟩, kv, lv]) ∧ Below w.heap.size w w' ∧ w.heap.size < ob ∧
  w'.ownsRow ob 9 1 kv (ins k rv l).length ((ins k rv l).map fun p => Value.string p.1) ∧
  w'.ownsRow ob 27 6 lv (ins k rv l).length (xs.take (cnt k l * 6) ++ [c0, c1, c2, c3, c4, c5] ++ xs.drop ((if found k l then cnt k l + 1 else cnt k l) * 6))

set_option maxRecDepth 100000 in
set_option maxHeartbeats 8000000 in
theorem withField_walk (l : List (ByteArray × RV)) (rv : RV) (hs : Sorted l) (F : Nat → Prop) (w : World) (hF : ∀ b, F b → b < w.heap.size) (kind n : Int) (f : Nat) (s k : ByteArray) (KA LA : Option Addr) (kc lc : Nat) (xs : List Value)
  (hk16 : (l.length + 1) * 16 ≤ R47) (hl88 : (l.length + 1) * 88 ≤ R47) (hkc : l.length ≤ kc) (_hkc2 : kc ≤ maxLen) (hlc : l.length ≤ lc) (_hlc2 : lc ≤ maxLen)
  (hrow : Row F w 1 KA l.length (l.map fun p => Value.string p.1)) (hrow6 : Row F w 6 LA l.length xs) (hxs : ∀ u ∈ xs, u.oneCell' = true) (c0 c1 c2 c3 c4 c5 : Value) (hcs : ∀ u ∈ [c0, c1, c2, c3, c4, c5], u.oneCell' = true) :
  Calls Tryz.prog 147 #[.agg #[.int .i64 kind, .int .i64 n, .float .f64 f, .string s, .slice KA l.length kc, .slice LA l.length lc], .string k, .agg #[c0, c1, c2, c3, c4, c5]] w
   (WithPost l rv k w c0 c1 c2 c3 c4 c5 xs) := by
 obtain ⟨i9, hi9, hz9, hs9, hb9⟩ := info_parts str_info
 obtain ⟨i26, hi26, hz26, hs26, hb26⟩ := info_parts val_info
 have hll : l.length ≤ 8796093022208 := by unfold R47 at hk16; omega
 have hcl := cnt_le k l
 have h16 : (l.length + 1) * 16 ≤ 140737488351232 := hk16
 have h88 : (l.length + 1) * 88 ≤ 140737488351232 := hl88
 have hst : ∀ j : Nat, ∀ u ∈ ((l.map fun p => Value.string p.1).take j), u.oneCell' = true := by
  intro j u hu
  obtain ⟨p, _, rfl⟩ := List.mem_map.1 (List.mem_of_mem_take hu)
  rfl
 have hsd : ∀ j : Nat, ∀ u ∈ ((l.map fun p => Value.string p.1).drop j), u.oneCell' = true := by
  intro j u hu
  obtain ⟨p, _, rfl⟩ := List.mem_map.1 (List.mem_of_mem_drop hu)
  rfl
 have HR := hide hrow
 have HX := hide hrow6
 have H1 := hide (And.intro hst (And.intro hsd (And.intro hxs hcs)))
 have HB := hide (And.intro h16 h88)
 have HF := hide hF
 have hi16 := hide (show l.length * 16 ≤ R47 by unfold R47; omega)
 clear hrow hrow6 hst hsd hxs hcs h16 h88 hk16 hl88 hF
 go_enter Tryz.func147, Tryz.ntmps147
 go_wp2_with fail
 refine (fieldIndex_calls l hs kind n f s k KA kc _ _ hi16.out ((HR.out.keeps (w' := _) (Keeps.below (((((Below.refl w.heap.size w).alloc (Nat.le_refl _) _).alloc (by simp) _).alloc (by simp; omega) _)) HF.out)).mono (fun b hb => by have := HF.out b hb; simp only [Old, World.size_alloc]; omega))).mono ?_
 rintro e w1 ⟨rfl, hb1⟩
 have hsz1 := hb1.size
 simp only [World.size_alloc] at hsz1
 have M1 := (((Bk.new w _ _).alloc _).alloc _).below hb1 (by simp only [World.size_alloc]; omega)
 have V1 := ((Bk.new _ _ _).alloc _).below hb1 (by simp only [World.size_alloc]; omega)
 have R1 := (Bk.new _ _ _).below hb1 (by simp only [World.size_alloc]; omega)
 simp only [World.size_alloc] at V1 R1
 have B1 : Below w.heap.size w w1 := ((((Below.refl w.heap.size w).alloc (Nat.le_refl _) _).alloc (by simp) _).alloc (by simp; omega) _).trans (hb1.mono (by simp only [World.size_alloc]; omega))
 have st0 : WF w (w1.alloc (.cells #[.int .i64 6, .int .i64 0, .float .f64 0, .string ⟨#[]⟩, .slice none 0 0, .slice none 0 0] 27)) w1.heap.size _ _ _ (.slice none 0 0) (.slice none 0 0) 0 0 [] [] :=
  ⟨B1.alloc B1.size _, M1.alloc _, V1.alloc _, R1.alloc _, Bk.new _ _ _, by omega, World.ownsRow_nil _ _ _ _, World.ownsRow_nil _ _ _ _⟩
 clear M1 V1 R1 hb1
 have hcc0 : (0 : Int) ≤ (cnt k l : Int) := Int.natCast_nonneg _
 have hcc1 : (cnt k l : Int) ≤ (l.length : Int) := by omega
 have hcc2 : (cnt k l : Int) ≤ (kc : Int) := by omega
 have hcc3 : (cnt k l : Int) ≤ (lc : Int) := by omega
 obtain ⟨m4, m5, o4, o5, mlt, olt⟩ := st0.reads
 -- the keys before k
 go_wp2_with fail
 refine wp_region_still_tail 6 (by kernel_rfl) (by kernel_rfl) ?_
 change wpStill _ _ (World.drew _) (fun a' => wpList _ _ _ _ a' (World.drew _)) _ _
 simp only [List.take_succ_cons, List.take_zero, List.drop_succ_cons, List.drop_zero]
 repeat still_step
 refine wpStill_nil ?_
 clear m4 m5 o4 o5 mlt olt
 refine wpList_append_row _ rfl (.tmp 18) (.tmp 22) 24 rfl (w1.heap.size + 1) 9 i9 _ 1 16 Tryz.underlying24 hi9 hz9 hs9 hb9 rfl (by omega) (.slice none 0 0) 0 [] rfl st0.drew.K F KA (cnt k l) kc
  ((l.map fun p => Value.string p.1).take (cnt k l)) rfl (by have := (HR.out.take hcl).keeps (st0.drew.old HF.out); simpa using this) (H1.out.1 _) (by have := HB.out.1; omega) (by omega) (by simp) ?_
 intro kv1 w2 hown2 hg2 _
 obtain ⟨kA1, kc1, rfl, hk1, hk1'⟩ := own_form hown2
 have sts := st0.drew.stores hg2 (fun g e => by simp [Value.ownBlock] at e)
 simp only [Nat.zero_add, List.nil_append] at hown2 hk1 sts ⊢
 obtain ⟨q4, q5, f4, f5⟩ := sts
 have st1 := st0.drew.keys hg2 hown2
 clear hg2 hown2 st0
 go_wp2
 clear q4 q5 f4 f5
 generalize (w2.setCell ⟨w1.heap.size, 4, none⟩ (.slice kA1 (cnt k l) kc1)) = W1 at st1 ⊢
 -- the values before k
 obtain ⟨m4, m5, o4, o5, mlt, olt⟩ := st1.reads
 refine wp_region_still_tail 6 (by kernel_rfl) (by kernel_rfl) ?_
 change wpStill _ _ (World.drew _) (fun a' => wpList _ _ _ _ a' (World.drew _)) _ _
 simp only [List.take_succ_cons, List.take_zero, List.drop_succ_cons, List.drop_zero]
 repeat still_step
 refine wpStill_nil ?_
 clear m4 m5 o4 o5 mlt olt
 refine wpList_append_row _ rfl (.tmp 26) (.tmp 30) 23 rfl (w1.heap.size + 1) 27 i26 _ 6 88 Tryz.underlying23 hi26 hz26 hs26 hb26 rfl (by omega) (.slice none 0 0) 0 [] rfl st1.drew.L F LA (cnt k l) lc
  (xs.take (cnt k l * 6)) rfl ((HX.out.take hcl).keeps (st1.drew.old HF.out)) (fun u hu => H1.out.2.2.1 u (List.mem_of_mem_take hu)) (by have := HB.out.2; omega) (by omega) (by have := st1.O.lt; simp; omega) ?_
 intro lv1 w3 hown3 hg3 _
 obtain ⟨lA1, lc1, rfl, hk2, hk2'⟩ := own_form hown3
 have sts := st1.drew.stores hg3 (fun g e => by simp [Value.ownBlock] at e)
 simp only [Nat.zero_add, List.nil_append] at hown3 hk2 sts ⊢
 obtain ⟨q4, q5, f4, f5⟩ := sts
 have st2 := st1.drew.vals hg3 hown3
 clear hg3 hown3 st1
 -- the key
 go_wp2_with (at_builtin; refine wpList_append_own_at _ rfl (.tmp 34) (.tmp 36) 24 rfl (w1.heap.size + 1) 9 i9 _ 1 16 Tryz.underlying24 hi9 hz9 hs9 hb9 rfl (by omega) _ (cnt k l) _ rfl (st2.alloc _).K ⟨w3.heap.size, 0, none⟩ 1 1 [.string k] rfl rfl (cells_at _ [.string k] _ _ (by simp)) (by simp [Value.oneCell']) (by unfold maxLen; omega) (by have := HB.out.1; omega) (by have := st2.O.lt; simp at this; simp; omega) ?_)
 intro kv2 w4 hown4 hg4 _ _
 obtain ⟨kA2, kc2, rfl, hk3, hk3'⟩ := own_form hown4
 obtain ⟨p4, p5, e4, e5⟩ := (st2.alloc _).stores hg4 (fun g e => (st2.K.lt g e).1)
 have V4 := (st2.alloc (.cells #[.string k] 9)).V.grown hg4 (fun e => by have := (st2.K.lt _ e.symm).1; omega)
 have st3 := (st2.alloc _).keys hg4 hown4
 clear hg4 hown4 st2 q4 q5 f4 f5
 -- the value
 obtain ⟨v0, v1, v2, v3, v4, v5⟩ : w4.cell? ⟨w.heap.size + 1, 0, none⟩ = some c0 ∧ w4.cell? ⟨w.heap.size + 1, 1, none⟩ = some c1 ∧ w4.cell? ⟨w.heap.size + 1, 2, none⟩ = some c2 ∧ w4.cell? ⟨w.heap.size + 1, 3, none⟩ = some c3 ∧ w4.cell? ⟨w.heap.size + 1, 4, none⟩ = some c4 ∧ w4.cell? ⟨w.heap.size + 1, 5, none⟩ = some c5 :=
  ⟨by simpa using V4.cell 0, by simpa using V4.cell 1, by simpa using V4.cell 2, by simpa using V4.cell 3, by simpa using V4.cell 4, by simpa using V4.cell 5⟩
 go_wp2_with (at_builtin; refine wpList_append_own_at _ rfl (.tmp 40) (.tmp 42) 23 rfl (w1.heap.size + 1) 27 i26 _ 6 88 Tryz.underlying23 hi26 hz26 hs26 hb26 rfl (by omega) _ (cnt k l) _ rfl (st3.alloc _).L ⟨w4.heap.size, 0, none⟩ 1 1 [c0, c1, c2, c3, c4, c5] rfl rfl (cells_at _ [c0, c1, c2, c3, c4, c5] _ _ (by simp)) H1.out.2.2.2 (by unfold maxLen; omega) (by have := HB.out.2; omega) (by have := st3.O.lt; simp at this; simp; omega) ?_)
 clear v0 v1 v2 v3 v4 v5 V4 p4 p5 e4 e5
 intro lv2 w5 hown5 hg5 _ _
 obtain ⟨lA2, lc2, rfl, hk4, hk4'⟩ := own_form hown5
 obtain ⟨p4, p5, e4, e5⟩ := (st3.alloc _).stores hg5 (fun g e => (st3.L.lt g e).1)
 have st4 := (st3.alloc _).vals hg5 hown5
 clear hg5 hown5 st3
 have hdec : found k l = true → cnt k l < l.length := by
  intro h
  unfold found at h
  rw [decide_eq_true_iff] at h
  rcases Nat.lt_or_ge (cnt k l) l.length with h1 | h1
  ·exact h1
  ·rw [List.getElem?_eq_none h1] at h
   cases h
 cases hfd : found k l
 ·have Hfd := hide hfd
  clear hfd hdec
  go_wp2
  clear p4 p5 e4 e5
  generalize hW2 : (w5.setCell ⟨w1.heap.size, 5, none⟩ (.slice lA2 (cnt k l + 1) lc2)) = W2 at st4 ⊢
  clear hW2
  -- the keys behind k
  obtain ⟨m4, m5, o4, o5, mlt, olt⟩ := st4.reads
  refine wp_region_still_tail 6 (by kernel_rfl) (by kernel_rfl) ?_
  change wpStill _ _ (World.drew _) (fun a' => wpList _ _ _ _ a' (World.drew _)) _ _
  simp only [List.take_succ_cons, List.take_zero, List.drop_succ_cons, List.drop_zero]
  repeat still_step
  refine wpStill_nil ?_
  clear m4 m5 o4 o5 mlt olt
  refine wpList_append_row _ rfl (.tmp 49) (.tmp 53) 24 rfl (w1.heap.size + 1) 9 i9 _ 1 16 Tryz.underlying24 hi9 hz9 hs9 hb9 rfl (by omega) (.slice kA2 (cnt k l + 1) kc2) (cnt k l + 1) _ rfl st4.drew.K F _ _ _
   ((l.map fun p => Value.string p.1).drop ((cnt k l))) rfl (by have := (HR.out.drop (m := (cnt k l)) (by omega) hkc).keeps (st4.drew.old HF.out); simpa only [Nat.mul_one] using this) (H1.out.2.1 _) (by have := HB.out.1; omega) (by omega) (by have := st4.O.lt; simp; omega) ?_
  intro kv3 w6 hown6 hg6 _
  obtain ⟨kA3, kc3, rfl, hk5, hk5'⟩ := own_form hown6
  obtain ⟨p4, p5, e4, e5⟩ := st4.drew.stores hg6 (fun g e => (st4.drew.K.lt g e).1)
  have st5 := st4.drew.keys hg6 hown6
  clear hg6 hown6 st4
  generalize (if kc = cnt k l then KA else Option.map (fun x => x.add (cnt k l)) KA) = KX
  go_wp2
  clear p4 p5 e4 e5
  generalize hW3 : (w6.setCell ⟨w1.heap.size, 4, none⟩ _) = W3 at st5 ⊢
  clear hW3
  -- the values behind k
  obtain ⟨m4, m5, o4, o5, mlt, olt⟩ := st5.reads
  refine wp_region_still_tail 6 (by kernel_rfl) (by kernel_rfl) ?_
  change wpStill _ _ (World.drew _) (fun a' => wpList _ _ _ _ a' (World.drew _)) _ _
  simp only [List.take_succ_cons, List.take_zero, List.drop_succ_cons, List.drop_zero]
  repeat still_step
  refine wpStill_nil ?_
  clear m4 m5 o4 o5 mlt olt
  refine wpList_append_row _ rfl (.tmp 57) (.tmp 61) 23 rfl (w1.heap.size + 1) 27 i26 _ 6 88 Tryz.underlying23 hi26 hz26 hs26 hb26 rfl (by omega) (.slice lA2 (cnt k l + 1) lc2) (cnt k l + 1) _ rfl st5.drew.L F _ _ _
   (xs.drop ((cnt k l) * 6)) rfl ((HX.out.drop (m := (cnt k l)) (by omega) hlc).keeps (st5.drew.old HF.out)) (fun u hu => H1.out.2.2.1 u (List.mem_of_mem_drop hu)) (by have := HB.out.2; omega) (by omega) (by have := st5.O.lt; simp; omega) ?_
  intro lv3 w7 hown7 hg7 _
  obtain ⟨lA3, lc3, rfl, hk6, hk6'⟩ := own_form hown7
  obtain ⟨p4, p5, e4, e5⟩ := st5.drew.stores hg7 (fun g e => (st5.drew.L.lt g e).1)
  have O7 := st5.drew.O.grown hg7 (fun e => by have := (st5.drew.L.lt _ e.symm).1; omega)
  have R7 := st5.drew.R.grown hg7 (fun e => by have := (st5.drew.L.lt _ e.symm).1; omega)
  have st6 := st5.drew.vals hg7 hown7
  clear hg7 hown7 st5
  have h9 := st6.O
  have h8 := st6.R
  generalize (if lc = cnt k l then LA else Option.map (fun x => x.add ((cnt k l) * 6)) LA) = LX
  have rb : w.heap.size + 2 = w.heap.size + 1 + 1 := rfl
  rw [rb] at h8
  have HFIN := hide (And.intro h8 st6)
  obtain ⟨a0, a1, a2, a3, r0, r1, r2, r3, r4, r5⟩ : w7.cell? ⟨w1.heap.size, 0, none⟩ = some (.int .i64 6) ∧ w7.cell? ⟨w1.heap.size, 1, none⟩ = some (.int .i64 0) ∧ w7.cell? ⟨w1.heap.size, 2, none⟩ = some (.float .f64 0) ∧ w7.cell? ⟨w1.heap.size, 3, none⟩ = some (.string ⟨#[]⟩) ∧
    w7.cell? ⟨w.heap.size + 1 + 1, 0, none⟩ = some (.int .i64 0) ∧ w7.cell? ⟨w.heap.size + 1 + 1, 1, none⟩ = some (.int .i64 0) ∧ w7.cell? ⟨w.heap.size + 1 + 1, 2, none⟩ = some (.float .f64 0) ∧ w7.cell? ⟨w.heap.size + 1 + 1, 3, none⟩ = some (.string ⟨#[]⟩) ∧
    w7.cell? ⟨w.heap.size + 1 + 1, 4, none⟩ = some (.slice none 0 0) ∧ w7.cell? ⟨w.heap.size + 1 + 1, 5, none⟩ = some (.slice none 0 0) :=
   ⟨by simpa using O7.cell 0, by simpa using O7.cell 1, by simpa using O7.cell 2, by simpa using O7.cell 3, by simpa using R7.cell 0, by simpa using R7.cell 1, by simpa using R7.cell 2, by simpa using R7.cell 3, by simpa using R7.cell 4, by simpa using R7.cell 5⟩
  have fr7 : ∀ i, w7.frozen? ⟨w.heap.size + 1 + 1, i, none⟩ = false := fun i => R7.free i
  have hne : ¬ w1.heap.size = w.heap.size + 1 + 1 := by omega
  have hne' : ¬ w.heap.size + 1 + 1 = w1.heap.size := by omega
  clear O7 R7 h9 h8 st6
  go_wp2
  obtain ⟨h8, st6⟩ := HFIN.out
  refine bodyPost_ret (results_cell_row rfl _ _ (w.heap.size + 1 + 1) 27 #[.int .i64 6, .int .i64 0, .float .f64 0, .string ⟨#[]⟩, .slice kA3 (cnt k l + 1 + (l.length - (cnt k l))) kc3, .slice lA3 (cnt k l + 1 + (l.length - (cnt k l))) lc3] (0, 0) _ rfl (show Bk _ (w.heap.size + 1 + 1) 27 _ from by simpa using ((((((h8.set_ 0 _).set_ 1 _).set_ 2 _).set_ 3 _).set_ 4 _).set_ 5 _)) Tryz.underlying27 rfl (by kernel_rfl)) rfl ?_
  have hb2 : w.heap.size ≤ w.heap.size + 1 + 1 := by omega
  have hlt2 : w.heap.size + 1 + 1 < w1.heap.size + 1 := by omega
  have hins : ins k rv l = l.take (cnt k l) ++ (k, rv) :: l.drop (cnt k l) := by
   rw [ins_eq]
   congr 2
   have := Hfd.out
   unfold found at this
   rw [decide_eq_false_iff_not] at this
   rw [if_neg this]
  have hlen : (ins k rv l).length = cnt k l + 1 + (l.length - (cnt k l)) := by
   rw [hins]
   simp only [List.length_append, List.length_take, List.length_cons, List.length_drop]
   omega
  have hkeys : (ins k rv l).map (fun p => Value.string p.1) = List.take (cnt k l) (l.map fun p => Value.string p.1) ++ [Value.string k] ++ List.drop (cnt k l) (l.map fun p => Value.string p.1) := by
   rw [hins]
   simp
  refine ⟨_, _, w1.heap.size + 1, rfl, ((((((st6.below.setCell hb2 _).setCell hb2 _).setCell hb2 _).setCell hb2 _).setCell hb2 _).setCell hb2 _), by omega, ?_, ?_⟩
  ·rw [hlen, hkeys]
   exact ownsRow_setCell_below (ownsRow_setCell_below (ownsRow_setCell_below (ownsRow_setCell_below (ownsRow_setCell_below (ownsRow_setCell_below st6.K hlt2 _) hlt2 _) hlt2 _) hlt2 _) hlt2 _) hlt2 _
  ·rw [hlen]
   have e1 : (if found k l = true then cnt k l + 1 else cnt k l) = (cnt k l) := by rw [Hfd.out]; rfl
   rw [e1]
   exact ownsRow_setCell_below (ownsRow_setCell_below (ownsRow_setCell_below (ownsRow_setCell_below (ownsRow_setCell_below (ownsRow_setCell_below st6.L hlt2 _) hlt2 _) hlt2 _) hlt2 _) hlt2 _) hlt2 _
 ·have hd0 := hdec hfd
  have Hfd := hide hfd
  clear hfd hdec
  obtain ⟨d, hdd⟩ : ∃ d : Nat, d = cnt k l + 1 := ⟨_, rfl⟩
  have hd1 : d ≤ l.length := by omega
  have hd2 : (d : Int) ≤ (l.length : Int) := by omega
  have hd3 : (d : Int) ≤ (kc : Int) := by omega
  have hd4 : (d : Int) ≤ (lc : Int) := by omega
  have hd5 : (0 : Int) ≤ (d : Int) := Int.natCast_nonneg _
  have hd6 : (cnt k l : Int) + 1 = (d : Int) := by omega
  have Hdd := hide hdd
  clear hdd
  go_wp2
  clear p4 p5 e4 e5
  generalize hW2 : (w5.setCell ⟨w1.heap.size, 5, none⟩ (.slice lA2 (cnt k l + 1) lc2)) = W2 at st4 ⊢
  clear hW2
  -- the keys behind k
  obtain ⟨m4, m5, o4, o5, mlt, olt⟩ := st4.reads
  refine wp_region_still_tail 6 (by kernel_rfl) (by kernel_rfl) ?_
  change wpStill _ _ (World.drew _) (fun a' => wpList _ _ _ _ a' (World.drew _)) _ _
  simp only [List.take_succ_cons, List.take_zero, List.drop_succ_cons, List.drop_zero]
  repeat still_step
  refine wpStill_nil ?_
  clear m4 m5 o4 o5 mlt olt
  refine wpList_append_row _ rfl (.tmp 49) (.tmp 53) 24 rfl (w1.heap.size + 1) 9 i9 _ 1 16 Tryz.underlying24 hi9 hz9 hs9 hb9 rfl (by omega) (.slice kA2 (cnt k l + 1) kc2) (cnt k l + 1) _ rfl st4.drew.K F _ _ _
   ((l.map fun p => Value.string p.1).drop (d)) rfl (by have := (HR.out.drop (m := d) (by omega) hkc).keeps (st4.drew.old HF.out); simpa only [Nat.mul_one] using this) (H1.out.2.1 _) (by have := HB.out.1; omega) (by omega) (by have := st4.O.lt; simp; omega) ?_
  intro kv3 w6 hown6 hg6 _
  obtain ⟨kA3, kc3, rfl, hk5, hk5'⟩ := own_form hown6
  obtain ⟨p4, p5, e4, e5⟩ := st4.drew.stores hg6 (fun g e => (st4.drew.K.lt g e).1)
  have st5 := st4.drew.keys hg6 hown6
  clear hg6 hown6 st4
  generalize (if kc = d then KA else Option.map (fun x => x.add (d)) KA) = KX
  go_wp2
  clear p4 p5 e4 e5
  generalize hW3 : (w6.setCell ⟨w1.heap.size, 4, none⟩ _) = W3 at st5 ⊢
  clear hW3
  -- the values behind k
  obtain ⟨m4, m5, o4, o5, mlt, olt⟩ := st5.reads
  refine wp_region_still_tail 6 (by kernel_rfl) (by kernel_rfl) ?_
  change wpStill _ _ (World.drew _) (fun a' => wpList _ _ _ _ a' (World.drew _)) _ _
  simp only [List.take_succ_cons, List.take_zero, List.drop_succ_cons, List.drop_zero]
  repeat still_step
  refine wpStill_nil ?_
  clear m4 m5 o4 o5 mlt olt
  refine wpList_append_row _ rfl (.tmp 57) (.tmp 61) 23 rfl (w1.heap.size + 1) 27 i26 _ 6 88 Tryz.underlying23 hi26 hz26 hs26 hb26 rfl (by omega) (.slice lA2 (cnt k l + 1) lc2) (cnt k l + 1) _ rfl st5.drew.L F _ _ _
   (xs.drop (d * 6)) rfl ((HX.out.drop (m := d) (by omega) hlc).keeps (st5.drew.old HF.out)) (fun u hu => H1.out.2.2.1 u (List.mem_of_mem_drop hu)) (by have := HB.out.2; omega) (by omega) (by have := st5.O.lt; simp; omega) ?_
  intro lv3 w7 hown7 hg7 _
  obtain ⟨lA3, lc3, rfl, hk6, hk6'⟩ := own_form hown7
  obtain ⟨p4, p5, e4, e5⟩ := st5.drew.stores hg7 (fun g e => (st5.drew.L.lt g e).1)
  have O7 := st5.drew.O.grown hg7 (fun e => by have := (st5.drew.L.lt _ e.symm).1; omega)
  have R7 := st5.drew.R.grown hg7 (fun e => by have := (st5.drew.L.lt _ e.symm).1; omega)
  have st6 := st5.drew.vals hg7 hown7
  clear hg7 hown7 st5
  have h9 := st6.O
  have h8 := st6.R
  generalize (if lc = d then LA else Option.map (fun x => x.add (d * 6)) LA) = LX
  have rb : w.heap.size + 2 = w.heap.size + 1 + 1 := rfl
  rw [rb] at h8
  have HFIN := hide (And.intro h8 st6)
  obtain ⟨a0, a1, a2, a3, r0, r1, r2, r3, r4, r5⟩ : w7.cell? ⟨w1.heap.size, 0, none⟩ = some (.int .i64 6) ∧ w7.cell? ⟨w1.heap.size, 1, none⟩ = some (.int .i64 0) ∧ w7.cell? ⟨w1.heap.size, 2, none⟩ = some (.float .f64 0) ∧ w7.cell? ⟨w1.heap.size, 3, none⟩ = some (.string ⟨#[]⟩) ∧
    w7.cell? ⟨w.heap.size + 1 + 1, 0, none⟩ = some (.int .i64 0) ∧ w7.cell? ⟨w.heap.size + 1 + 1, 1, none⟩ = some (.int .i64 0) ∧ w7.cell? ⟨w.heap.size + 1 + 1, 2, none⟩ = some (.float .f64 0) ∧ w7.cell? ⟨w.heap.size + 1 + 1, 3, none⟩ = some (.string ⟨#[]⟩) ∧
    w7.cell? ⟨w.heap.size + 1 + 1, 4, none⟩ = some (.slice none 0 0) ∧ w7.cell? ⟨w.heap.size + 1 + 1, 5, none⟩ = some (.slice none 0 0) :=
   ⟨by simpa using O7.cell 0, by simpa using O7.cell 1, by simpa using O7.cell 2, by simpa using O7.cell 3, by simpa using R7.cell 0, by simpa using R7.cell 1, by simpa using R7.cell 2, by simpa using R7.cell 3, by simpa using R7.cell 4, by simpa using R7.cell 5⟩
  have fr7 : ∀ i, w7.frozen? ⟨w.heap.size + 1 + 1, i, none⟩ = false := fun i => R7.free i
  have hne : ¬ w1.heap.size = w.heap.size + 1 + 1 := by omega
  have hne' : ¬ w.heap.size + 1 + 1 = w1.heap.size := by omega
  clear O7 R7 h9 h8 st6
  go_wp2
  obtain ⟨h8, st6⟩ := HFIN.out
  refine bodyPost_ret (results_cell_row rfl _ _ (w.heap.size + 1 + 1) 27 #[.int .i64 6, .int .i64 0, .float .f64 0, .string ⟨#[]⟩, .slice kA3 (cnt k l + 1 + (l.length - d)) kc3, .slice lA3 (cnt k l + 1 + (l.length - d)) lc3] (0, 0) _ rfl (show Bk _ (w.heap.size + 1 + 1) 27 _ from by simpa using ((((((h8.set_ 0 _).set_ 1 _).set_ 2 _).set_ 3 _).set_ 4 _).set_ 5 _)) Tryz.underlying27 rfl (by kernel_rfl)) rfl ?_
  have hb2 : w.heap.size ≤ w.heap.size + 1 + 1 := by omega
  have hlt2 : w.heap.size + 1 + 1 < w1.heap.size + 1 := by omega
  have hins : ins k rv l = l.take (cnt k l) ++ (k, rv) :: l.drop (d) := by
   rw [ins_eq]
   congr 2
   have := Hfd.out
   unfold found at this
   rw [decide_eq_true_iff] at this
   rw [if_pos this, Hdd.out]
  have hlen : (ins k rv l).length = cnt k l + 1 + (l.length - d) := by
   rw [hins]
   simp only [List.length_append, List.length_take, List.length_cons, List.length_drop]
   omega
  have hkeys : (ins k rv l).map (fun p => Value.string p.1) = List.take (cnt k l) (l.map fun p => Value.string p.1) ++ [Value.string k] ++ List.drop (d) (l.map fun p => Value.string p.1) := by
   rw [hins]
   simp
  refine ⟨_, _, w1.heap.size + 1, rfl, ((((((st6.below.setCell hb2 _).setCell hb2 _).setCell hb2 _).setCell hb2 _).setCell hb2 _).setCell hb2 _), by omega, ?_, ?_⟩
  ·rw [hlen, hkeys]
   exact ownsRow_setCell_below (ownsRow_setCell_below (ownsRow_setCell_below (ownsRow_setCell_below (ownsRow_setCell_below (ownsRow_setCell_below st6.K hlt2 _) hlt2 _) hlt2 _) hlt2 _) hlt2 _) hlt2 _
  ·rw [hlen]
   have e1 : (if found k l = true then cnt k l + 1 else cnt k l) = d := by rw [Hfd.out, Hdd.out]; rfl
   rw [e1]
   exact ownsRow_setCell_below (ownsRow_setCell_below (ownsRow_setCell_below (ownsRow_setCell_below (ownsRow_setCell_below (ownsRow_setCell_below st6.L hlt2 _) hlt2 _) hlt2 _) hlt2 _) hlt2 _) hlt2 _

end Go.Proofs.YtbicoknghdgahaaGreat

namespace Go.Proofs.YtbicoknghdgahaaGreat
open Go.RowKit
attribute [local go_sem] run_store_float

def fieldsRV (m : List (ByteArray × RV)) : RV := .mk 6 0 0 ⟨#[]⟩ (m.map Prod.fst) (m.map Prod.snd)

theorem zip_map_r {α β γ : Type _} (g : β → γ) : ∀ (a : List α) (b : List β), a.zip (b.map g) = (a.zip b).map fun p => (p.1, g p.2)
 | [], _ => by simp
 | _ :: _, [] => by simp
 | x :: a, y :: b => by simp [zip_map_r g a b]
theorem mapOf_map {α β : Type} (g : α → β) (keys : List ByteArray) (l : List α) : mapOf keys (l.map g) = (mapOf keys l).map fun p => (p.1, g p.2) := by
 have h : ∀ (z : List (ByteArray × α)) m, (z.map fun p => (p.1, g p.2)).foldl (fun m p => ins p.1 p.2 m) (m.map fun p => (p.1, g p.2)) = (z.foldl (fun m p => ins p.1 p.2 m) m).map fun p => (p.1, g p.2) := by
  intro z
  induction z with
  | nil => intro m; rfl
  | cons p r ih => intro m; simp only [List.map_cons, List.foldl_cons, ← ins_map, ih]
 have := h (keys.zip l) []
 unfold mapOf
 rw [← this, List.map_nil, zip_map_r]
theorem fieldsOf_toRV (kind n : Int) (f : Nat) (s : ByteArray) (keys : List ByteArray) (l : List RV) : (RV.mk kind n f s keys l).fieldsOf.toRV = fieldsRV (mapOf keys (l.map fun r => r.tree.toRV)) := by
 have e : (l.map fun r => r.tree.toRV) = (l.map RV.tree).map T.toRV := by simp
 rw [e, mapOf_map]
 simp only [RV.fieldsOf, T.toRV, fieldsRV, toRVM_eq, List.map_map]
 rfl

def GivesRV (F : Nat → Prop) (r : RV) (w : World) (e : Ending) (w' : World) : Prop :=
 ∃ cs : List Value, e = .returned (.agg cs.toArray) ∧ RVAt (fun b => F b ∨ Fr w.heap.size w' b) w' r cs ∧ Below w.heap.size w w'

theorem withField_calls (l : List (ByteArray × RV)) (hs : Sorted l) (F : Nat → Prop) (w : World) (hF : ∀ b, F b → b < w.heap.size) (kind n : Int) (f : Nat) (s k : ByteArray) (rv : RV) (mcs vcs : List Value) (h16 : (l.length + 1) * 16 ≤ R47) (h88 : (l.length + 1) * 88 ≤ R47) (hk : k.size ≤ R47)
  (hm : RVAt F w (.mk kind n f s (l.map Prod.fst) (l.map Prod.snd)) mcs) (hv : RVAt F w rv vcs) :
  Calls Tryz.prog 147 #[.agg mcs.toArray, .string k, .agg vcs.toArray] w (GivesRV F (fieldsRV (ins k rv l)) w) := by
 have hvs := hv
 have hv1 : ∀ u ∈ vcs, u.oneCell' = true := (RVs.one hv).ones
 generalize hkeys : l.map Prod.fst = keys at hm
 generalize hvals : l.map Prod.snd = vals at hm
 cases hm with
 | @mk _ _ _ _ _ _ KA LA kc lc xs _ _ _ _ h5 _ _ h8 h9 h10 h11 h12 h13 h14 =>
 subst hkeys; subst hvals
 have hxs : RVs F w (l.map Prod.snd) xs := ⟨h13.1, h14⟩
 simp only [List.length_map, List.map_map] at h8 h10 h12 h13 ⊢
 obtain ⟨c0, c1, c2, c3, c4, c5, rfl⟩ : ∃ c0 c1 c2 c3 c4 c5, vcs = [c0, c1, c2, c3, c4, c5] := by cases hv; exact ⟨_, _, _, _, _, _, rfl⟩
 refine (withField_walk l rv hs F w hF kind n f s k KA LA kc lc xs h16 h88 h8 h9 h10 h11 h12 h13 hxs.ones _ _ _ _ _ _ hv1).mono ?_
 rintro e w' ⟨kv, lv, ob, rfl, hb, hob, hK, hL⟩
 obtain ⟨A, c, rfl, hc1, hc2⟩ := own_form hK
 obtain ⟨A', c', rfl, hc1', hc2'⟩ := own_form hL
 have hlen := ins_length k rv l
 have keep : Keeps F w w' := Keeps.below hb hF
 have hxs' : RVs (fun b => F b ∨ Fr w.heap.size w' b) w' ((ins k rv l).map Prod.snd) (xs.take (cnt k l * 6) ++ [c0, c1, c2, c3, c4, c5] ++ xs.drop ((if found k l then cnt k l + 1 else cnt k l) * 6)) := by
  have e1 : (ins k rv l).map Prod.snd = (l.map Prod.snd).take (cnt k l) ++ [rv] ++ (l.map Prod.snd).drop (if found k l then cnt k l + 1 else cnt k l) := by
   rw [ins_eq]
   simp only [found, decide_eq_true_eq, List.map_append, List.map_take, List.map_cons, List.map_drop, List.append_assoc, List.cons_append, List.nil_append]
  rw [e1]
  exact (((hxs.take _ (by simpa using cnt_le k l)).append (RVs.one hvs)).append (hxs.drop _)).keeps keep |>.mono fun b hb => .inl hb
 have b0 : okInt 6 := ⟨by decide, by decide⟩
 have b1 : okInt 0 := ⟨by decide, by decide⟩
 have hkk : ∀ x ∈ (ins k rv l).map Prod.fst, x.size ≤ R47 := by
  intro x hx
  rcases (keys_ins hs x).1 hx with rfl | hx
  ·exact hk
  ·exact h5 x hx
 have hmk := RVAt.mk (F := fun b => F b ∨ Fr w.heap.size w' b) (w := w') (kind := 6) (n := 0) (f := 0) (s := ⟨#[]⟩) (keys := (ins k rv l).map Prod.fst) (l := (ins k rv l).map Prod.snd) (KA := A) (LA := A') (kc := c) (lc := c') b0 b1 (by unfold B64; omega) (by decide) hkk
  (by rw [List.length_map]; exact Nat.le_trans (Nat.mul_le_mul_right _ hlen) h16) (by rw [List.length_map]; exact Nat.le_trans (Nat.mul_le_mul_right _ hlen) h88) (by rw [List.length_map]; exact hc1) hc2 (by rw [List.length_map]; exact hc1') hc2'
  (by rw [List.length_map, List.map_map]; exact Row.of_own hK fun g hg => .inr ⟨by have := (hK.lt g hg).1; omega, (hK.lt g hg).2⟩)
  (by rw [List.length_map]; exact Row.of_own hL fun g hg => .inr ⟨by have := (hL.lt g hg).1; omega, (hL.lt g hg).2⟩) hxs'.2
 simp only [List.length_map] at hmk
 exact ⟨_, rfl, hmk, hb⟩

theorem RVAt.fields {F : Nat → Prop} {w : World} {m : List (ByteArray × RV)} {cs : List Value} (h : RVAt F w (fieldsRV m) cs) :
  ∃ KA kc LA lc, cs = [.int .i64 6, .int .i64 0, .float .f64 0, .string ⟨#[]⟩, .slice KA m.length kc, .slice LA m.length lc] := by
 unfold fieldsRV at h
 generalize hk : m.map Prod.fst = keys at h
 generalize hv : m.map Prod.snd = vals at h
 cases h with
 | @mk _ _ _ _ _ _ KA LA kc lc =>
  subst hk; subst hv
  simp only [List.length_map]
  exact ⟨KA, kc, LA, lc, rfl⟩

theorem RVAt.flat {F : Nat → Prop} {w : World} (kind n : Int) (f : Nat) (s : ByteArray) (h1 : okInt kind) (h2 : okInt n) (h3 : f < B64) (h4 : s.size ≤ R47) :
  RVAt F w (.mk kind n f s [] []) [.int .i64 kind, .int .i64 n, .float .f64 f, .string s, .slice none 0 0, .slice none 0 0] :=
 RVAt.mk (keys := []) (l := []) (KA := none) (LA := none) (kc := 0) (lc := 0) (xs := []) h1 h2 h3 h4 (by simp) (by simp [R47]) (by simp [R47]) (by simp) (by simp) (by simp) (by simp) Row.nil_ Row.nil_ (by simp)
theorem RVAt.empty (F : Nat → Prop) (w : World) : RVAt F w (fieldsRV []) [.int .i64 6, .int .i64 0, .float .f64 0, .string ⟨#[]⟩, .slice none 0 0, .slice none 0 0] :=
 RVAt.flat 6 0 0 ⟨#[]⟩ ⟨by decide, by decide⟩ ⟨by decide, by decide⟩ (by decide) (by decide)

def CleanOK (rv : RV) : Prop := ∀ (w : World) (cs : List Value), RVAt (Old w) w rv cs → Calls Tryz.prog 42 #[.agg cs.toArray] w (GivesRV (fun _ => False) rv.tree.toRV w)
def AllClean (l : List RV) : Prop := ∀ r ∈ l, CleanOK r
def PlainMapOK (rv : RV) : Prop := ∀ (w : World) (cs : List Value), RVAt (Old w) w rv cs → Calls Tryz.prog 93 #[.agg cs.toArray] w (GivesRV (fun _ => False) rv.fieldsOf.toRV w)

def mapC (keys : List ByteArray) (l : List RV) (k : Nat) : List (ByteArray × RV) := mapOf (keys.take k) ((l.map fun r => r.tree.toRV).take k)

structure SMap (w : World) (mcs : Array Value) (keys : List ByteArray) (l : List RV) (k : Nat) (cs : List Value) (wr : World) : Prop where
 below : Below w.heap.size w wr
 M : Bk wr w.heap.size 27 mcs
 R : Bk wr (w.heap.size + 1) 27 #[.int .i64 0, .int .i64 0, .float .f64 0, .string ⟨#[]⟩, .slice none 0 0, .slice none 0 0]
 O : Bk wr (w.heap.size + 2) 27 cs.toArray
 val : RVAt (fun b => w.heap.size + 3 ≤ b ∧ b < wr.heap.size) wr (fieldsRV (mapC keys l k)) cs
def SMapInv (w : World) (mcs : Array Value) (keys : List ByteArray) (l : List RV) (ctr : Value) (wr : World) : Prop :=
 ∃ (k : Nat) (cs : List Value), k ≤ keys.length ∧ k ≤ l.length ∧ ctr = .int .i64 k ∧ SMap w mcs keys l k cs wr

def set6 (w : World) (g : Nat) (c0 c1 c2 c3 c4 c5 : Value) : World :=
 (((((w.setCell ⟨g, 0, none⟩ c0).setCell ⟨g, 1, none⟩ c1).setCell ⟨g, 2, none⟩ c2).setCell ⟨g, 3, none⟩ c3).setCell ⟨g, 4, none⟩ c4).setCell ⟨g, 5, none⟩ c5
theorem set6_same {w : World} {g : Nat} {t : TypeId} {a0 a1 a2 a3 a4 a5 : Value} (c0 c1 c2 c3 c4 c5 : Value) (h : Bk w g t #[a0, a1, a2, a3, a4, a5]) : Bk (set6 w g c0 c1 c2 c3 c4 c5) g t #[c0, c1, c2, c3, c4, c5] := by
 simpa [set6] using (((((h.set_ 0 c0).set_ 1 c1).set_ 2 c2).set_ 3 c3).set_ 4 c4).set_ 5 c5
theorem set6_heap (w : World) (g : Nat) (c0 c1 c2 c3 c4 c5 : Value) (b : Nat) (h : b ≠ g) : (set6 w g c0 c1 c2 c3 c4 c5).heap[b]? = w.heap[b]? := by
 unfold set6
 rw [Below.heap_setCell _ _ _ _ h, Below.heap_setCell _ _ _ _ h, Below.heap_setCell _ _ _ _ h, Below.heap_setCell _ _ _ _ h, Below.heap_setCell _ _ _ _ h, Below.heap_setCell _ _ _ _ h]
theorem set6_size (w : World) (g : Nat) (c0 c1 c2 c3 c4 c5 : Value) : (set6 w g c0 c1 c2 c3 c4 c5).heap.size = w.heap.size := by simp [set6]
theorem set6_below {a w : World} {B g : Nat} (c0 c1 c2 c3 c4 c5 : Value) (h : Below B a w) (hB : B ≤ g) : Below B a (set6 w g c0 c1 c2 c3 c4 c5) :=
 ((((((h.setCell hB c0).setCell hB c1).setCell hB c2).setCell hB c3).setCell hB c4).setCell hB c5)

theorem below_of_drew {B : Nat} {w w' : World} (h : Below B w.drew w') : Below B w w' := ⟨h.os, h.tape, h.output, h.size, h.block⟩

theorem smap_mid {w wr w1 : World} {mcs : Array Value} {keys : List ByteArray} {l : List RV} {k : Nat} {cs ccs : List Value} {rr : RV} (st : SMap w mcs keys l k cs wr) (hb1 : Below wr.heap.size wr.drew w1) (hcc : RVAt (fun b => False ∨ Fr wr.heap.size w1 b) w1 rr ccs) :
  RVAt (fun b => w.heap.size + 3 ≤ b ∧ b < w1.heap.size) w1 (fieldsRV (mapC keys l k)) cs ∧ RVAt (fun b => w.heap.size + 3 ≤ b ∧ b < w1.heap.size) w1 rr ccs := by
 have s1 := hb1.size
 have s2 := st.O.lt
 have s1' : wr.heap.size ≤ w1.heap.size := s1
 refine ⟨(st.val.keeps (Keeps.below (below_of_drew hb1) fun b hb => hb.2)).mono fun b hb => ⟨hb.1, by have := hb.2; omega⟩, hcc.mono fun b hb => ?_⟩
 rcases hb with hb | hb
 ·exact hb.elim
 ·exact ⟨by have := hb.1; omega, hb.2⟩

theorem smap_step {w wr w1 w2 : World} {mcs : Array Value} {keys : List ByteArray} {l : List RV} {k : Nat} {cs rcs : List Value} {r : RV} {c0 c1 c2 c3 c4 c5 a0 a1 a2 a3 a4 a5 : Value} (st : SMap w mcs keys l k cs wr) (hb1 : Below wr.heap.size wr.drew w1) (hk : k < keys.length) (hl : k < l.length) (hr : l[k]? = some r)
  (hb2 : Below w1.heap.size w1 w2) (hv : RVAt (fun b => (w.heap.size + 3 ≤ b ∧ b < w1.heap.size) ∨ Fr w1.heap.size w2 b) w2 (fieldsRV (ins keys[k] r.tree.toRV (mapC keys l k))) rcs) (hcs : cs = [a0, a1, a2, a3, a4, a5]) (hrcs : rcs = [c0, c1, c2, c3, c4, c5]) :
  SMap w mcs keys l (k + 1) rcs (set6 w2 (w.heap.size + 2) c0 c1 c2 c3 c4 c5) := by
 subst hcs; subst hrcs
 have s1 : wr.heap.size ≤ w1.heap.size := hb1.size
 have s2 := st.O.lt
 have s3 := hb2.size
 have hb12 : Below wr.heap.size wr w2 := (below_of_drew hb1).trans (hb2.mono s1)
 have s4 := st.below.size
 have hr' : l[k] = r := by rw [List.getElem?_eq_getElem hl] at hr; exact Option.some.inj hr
 have e : mapC keys l (k + 1) = ins keys[k] r.tree.toRV (mapC keys l k) := by
  unfold mapC
  rw [mapOf_take_succ _ _ _ hk (by simpa using hl)]
  simp [hr']
 refine ⟨set6_below _ _ _ _ _ _ (st.below.trans (hb12.mono s4)) (by omega), ?_, ?_, set6_same _ _ _ _ _ _ (st.O.below hb12 s2), ?_⟩
 ·exact (set6_heap _ _ _ _ _ _ _ _ _ (by omega)).trans (st.M.below hb12 st.M.lt)
 ·exact (set6_heap _ _ _ _ _ _ _ _ _ (by omega)).trans (st.R.below hb12 st.R.lt)
 ·rw [e]
  refine (hv.keeps (w' := set6 w2 (w.heap.size + 2) c0 c1 c2 c3 c4 c5) fun b hb => set6_heap _ _ _ _ _ _ _ _ _ ?_).mono fun b hb => ?_
  ·rcases hb with hb | hb
   ·have := hb.1; omega
   ·have := hb.1; omega
  ·rw [set6_size]
   rcases hb with hb | hb
   ·exact ⟨hb.1, by have := hb.2; omega⟩
   ·exact ⟨by have := hb.1; omega, hb.2⟩

theorem RVAt.six {F : Nat → Prop} {w : World} {r : RV} {cs : List Value} (h : RVAt F w r cs) : ∃ c0 c1 c2 c3 c4 c5, cs = [c0, c1, c2, c3, c4, c5] := by
 cases h; exact ⟨_, _, _, _, _, _, rfl⟩

theorem smap_facts {w wr : World} {mcs : Array Value} {keys : List ByteArray} {l : List RV} {k : Nat} {a0 a1 a2 a3 a4 a5 : Value} (st : SMap w mcs keys l k [a0, a1, a2, a3, a4, a5] wr) :
  wr.cell? ⟨w.heap.size + 1 + 1, 0, none⟩ = some a0 ∧ wr.cell? ⟨w.heap.size + 1 + 1, 1, none⟩ = some a1 ∧ wr.cell? ⟨w.heap.size + 1 + 1, 2, none⟩ = some a2 ∧ wr.cell? ⟨w.heap.size + 1 + 1, 3, none⟩ = some a3 ∧ wr.cell? ⟨w.heap.size + 1 + 1, 4, none⟩ = some a4 ∧ wr.cell? ⟨w.heap.size + 1 + 1, 5, none⟩ = some a5 ∧
   (∀ i, wr.frozen? ⟨w.heap.size + 1, i, none⟩ = false) ∧
   wr.cell? ⟨w.heap.size + 1, 0, none⟩ = some (.int .i64 0) ∧ wr.cell? ⟨w.heap.size + 1, 1, none⟩ = some (.int .i64 0) ∧ wr.cell? ⟨w.heap.size + 1, 2, none⟩ = some (.float .f64 0) ∧ wr.cell? ⟨w.heap.size + 1, 3, none⟩ = some (.string ⟨#[]⟩) ∧ wr.cell? ⟨w.heap.size + 1, 4, none⟩ = some (.slice none 0 0) ∧ wr.cell? ⟨w.heap.size + 1, 5, none⟩ = some (.slice none 0 0) :=
 ⟨st.O.cell 0, st.O.cell 1, st.O.cell 2, st.O.cell 3, st.O.cell 4, st.O.cell 5, fun i => st.R.free i, st.R.cell 0, st.R.cell 1, st.R.cell 2, st.R.cell 3, st.R.cell 4, st.R.cell 5⟩

theorem smap_fin {w wr : World} {mcs : Array Value} {keys : List ByteArray} {l : List RV} {k : Nat} {a0 a1 a2 a3 a4 a5 : Value} {m : List (ByteArray × RV)} (st : SMap w mcs keys l k [a0, a1, a2, a3, a4, a5] wr) (hm : mapC keys l k = m) :
  Bk (set6 wr (w.heap.size + 1) a0 a1 a2 a3 a4 a5) (w.heap.size + 1) 27 #[a0, a1, a2, a3, a4, a5] ∧ Below w.heap.size w (set6 wr (w.heap.size + 1) a0 a1 a2 a3 a4 a5) ∧
  RVAt (fun b => False ∨ Fr w.heap.size (set6 wr (w.heap.size + 1) a0 a1 a2 a3 a4 a5) b) (set6 wr (w.heap.size + 1) a0 a1 a2 a3 a4 a5) (fieldsRV m) [a0, a1, a2, a3, a4, a5] := by
 subst hm
 refine ⟨set6_same _ _ _ _ _ _ st.R, set6_below _ _ _ _ _ _ st.below (by omega), (st.val.keeps fun b hb => set6_heap _ _ _ _ _ _ _ _ _ (by have := hb.1; omega)).mono fun b hb => .inr ⟨by have := hb.1; omega, by rw [set6_size]; exact hb.2⟩⟩

theorem smap_start (w : World) (mcs : Array Value) (keys : List ByteArray) (l : List RV) : SMapInv w mcs keys l (.int .i64 0)
  (((w.alloc (.cells mcs 27)).alloc (.cells #[.int .i64 0, .int .i64 0, .float .f64 0, .string ⟨#[]⟩, .slice none 0 0, .slice none 0 0] 27)).alloc (.cells #[.int .i64 6, .int .i64 0, .float .f64 0, .string ⟨#[]⟩, .slice none 0 0, .slice none 0 0] 27)) := by
 refine ⟨0, [.int .i64 6, .int .i64 0, .float .f64 0, .string ⟨#[]⟩, .slice none 0 0, .slice none 0 0], Nat.zero_le _, Nat.zero_le _, rfl, ((((Below.refl _ _).alloc (Nat.le_refl _) _).alloc (by simp) _).alloc (by simp; omega) _), ((Bk.new w _ _).alloc _).alloc _, ?_, ?_, ?_⟩
 ·have := (Bk.new (w.alloc (.cells mcs 27)) 27 #[.int .i64 0, .int .i64 0, .float .f64 0, .string ⟨#[]⟩, .slice none 0 0, .slice none 0 0]).alloc (.cells #[.int .i64 6, .int .i64 0, .float .f64 0, .string ⟨#[]⟩, .slice none 0 0, .slice none 0 0] 27)
  simpa using this
 ·have := (Bk.new ((w.alloc (.cells mcs 27)).alloc (.cells #[.int .i64 0, .int .i64 0, .float .f64 0, .string ⟨#[]⟩, .slice none 0 0, .slice none 0 0] 27)) 27 [.int .i64 6, .int .i64 0, .float .f64 0, .string ⟨#[]⟩, .slice none 0 0, .slice none 0 0].toArray)
  simpa using this
 ·have e : mapC keys l 0 = [] := by simp [mapC, mapOf]
  rw [e]
  exact RVAt.empty _ _

structure Round (g kb ko b o k nk kc nl lc : Nat) (key : ByteArray) (c0 c1 c2 c3 c4 c5 d0 d1 d2 d3 d4 d5 : Value) (W : World) : Prop where
 m4 : W.cell? ⟨g, 4, none⟩ = some (.slice (some ⟨kb, ko, none⟩) nk kc)
 m5 : W.cell? ⟨g, 5, none⟩ = some (.slice (some ⟨b, o, none⟩) nl lc)
 ky : W.cell? ⟨kb, ko + k, none⟩ = some (.string key)
 e0 : W.cell? ⟨b, o + k * 6, none⟩ = some c0
 e1 : W.cell? ⟨b, o + k * 6 + 1, none⟩ = some c1
 e2 : W.cell? ⟨b, o + k * 6 + 2, none⟩ = some c2
 e3 : W.cell? ⟨b, o + k * 6 + 3, none⟩ = some c3
 e4 : W.cell? ⟨b, o + k * 6 + 4, none⟩ = some c4
 e5 : W.cell? ⟨b, o + k * 6 + 5, none⟩ = some c5
 o0 : W.cell? ⟨g + 1 + 1, 0, none⟩ = some d0
 o1 : W.cell? ⟨g + 1 + 1, 1, none⟩ = some d1
 o2 : W.cell? ⟨g + 1 + 1, 2, none⟩ = some d2
 o3 : W.cell? ⟨g + 1 + 1, 3, none⟩ = some d3
 o4 : W.cell? ⟨g + 1 + 1, 4, none⟩ = some d4
 o5 : W.cell? ⟨g + 1 + 1, 5, none⟩ = some d5

theorem Round.below {g kb ko b o k nk kc nl lc B : Nat} {key : ByteArray} {c0 c1 c2 c3 c4 c5 d0 d1 d2 d3 d4 d5 : Value} {W W' : World} (h : Round g kb ko b o k nk kc nl lc key c0 c1 c2 c3 c4 c5 d0 d1 d2 d3 d4 d5 W) (hB : Below B W W') (hg : g + 2 < B) (hk : kb < B) (hb : b < B) :
  Round g kb ko b o k nk kc nl lc key c0 c1 c2 c3 c4 c5 d0 d1 d2 d3 d4 d5 W' := by
 have e := (bcell hB).1
 exact ⟨(e _ _ (by omega)).trans h.m4, (e _ _ (by omega)).trans h.m5, (e _ _ hk).trans h.ky, (e _ _ hb).trans h.e0, (e _ _ hb).trans h.e1, (e _ _ hb).trans h.e2, (e _ _ hb).trans h.e3, (e _ _ hb).trans h.e4, (e _ _ hb).trans h.e5,
  (e _ _ (by omega)).trans h.o0, (e _ _ (by omega)).trans h.o1, (e _ _ (by omega)).trans h.o2, (e _ _ (by omega)).trans h.o3, (e _ _ (by omega)).trans h.o4, (e _ _ (by omega)).trans h.o5⟩

set_option maxRecDepth 100000 in
set_option maxHeartbeats 400000 in
theorem specPlainMap_ok (kind n : Int) (f : Nat) (s : ByteArray) (keys : List ByteArray) (l : List RV) (ih : AllClean l) : PlainMapOK (RV.mk kind n f s keys l) := by
 intro w cs hrv
 cases hrv with
 | @mk _ _ _ _ _ _ KA LA kc lc xs h1 h2 h3 h4 h5 h6 h7 h8 h9 h10 h11 hKrow hLrow hx =>
 have hkl : keys.length ≤ 8796093022208 := by unfold R47 at h6; omega
 have hll : l.length ≤ 8796093022208 := by unfold R47 at h7; omega
 have H6 := hide h6
 have H7 := hide h7
 have H5 := hide h5
 have HK := hide hKrow
 have HL := hide hLrow
 have HX := hide hx
 clear h1 h2 h3 h4 h5 h6 h7 h8 h9 h10 h11 hKrow hLrow hx
 go_enter Tryz.func93, Tryz.ntmps93
 go_wp2
 go_loopw [4] (fun ctr wr => SMapInv w #[.int .i64 kind, .int .i64 n, .float .f64 f, .string s, .slice KA keys.length kc, .slice LA l.length lc] keys l ctr wr) (fun ctr _ => keys.length - (intOf ctr).toNat)
 case atStart => exact smap_start w _ keys l
 case round =>
  obtain ⟨k, cs, hk, hl, rfl, st⟩ := hrel
  have m4 := st.M.cell 4
  have m5 := st.M.cell 5
  simp at m4 m5
  by_cases hlt : k < keys.length
  ·obtain ⟨kb, ko, rfl, hkF, hkc⟩ := row1_at (u := Value.string keys[k]) HK.out hlt (by simp [hlt])
   rw [← (bcell st.below).1 _ _ hkF] at hkc
   by_cases hl' : k < l.length
   ·have hgk : l[k]? = some l[k] := List.getElem?_eq_getElem hl'
    have hrk := (HX.out k _ hgk)
    have hih := ih l[k] (List.getElem_mem hl')
    generalize l[k] = r at hgk hrk hih
    have Hgk := hide hgk
    clear hgk
    have hkr := hrk
    generalize hcs : (xs.drop (k * 6)).take 6 = ecs at hrk hkr
    cases hrk with
    | @mk kind' n' f' s' keys' l' KA' LA' kc' lc' xs' h1 h2 h3 h4 h5 h6 h7 h8 h9 h10 h11 h12 h13 h14 =>
     clear h1 h2 h3 h4 h5 h6 h7 h8 h9 h10 h11 h12 h13 h14
     obtain ⟨b, o, rfl, hF, k0, k1, k2, k3, k4, k5⟩ := row6_at HL.out hl' hcs
     have Hcs := hide hcs
     clear hcs
     rw [← (bcell st.below).1 _ _ hF] at k0 k1 k2 k3 k4 k5
     have hkr' : ∀ W : World, (∀ b, b < w.heap.size → W.heap[b]? = wr.heap[b]?) → wr.heap.size ≤ W.heap.size → RVAt (Old W) W (RV.mk kind' n' f' s' keys' l') _ := fun W h1 h2 =>
      (hkr.keeps (w' := W) (fun b hb => (h1 b hb).trans (st.below.block b hb))).mono (fun b hb => by have := st.below.size; simp only [Old] at hb ⊢; omega)
     have Hkr := hide hkr'
     clear hkr hkr'
     have hBl : w.heap.size < wr.heap.size := st.M.lt
     have hkl' : kb < wr.heap.size := Nat.lt_of_lt_of_le hkF st.below.size
     have hbl' : b < wr.heap.size := Nat.lt_of_lt_of_le hF st.below.size
     have hki0 : (0 : Int) ≤ (k : Int) := Int.natCast_nonneg _
     have hki1 : (k : Int) < (keys.length : Int) := by omega
     have hki2 : (k : Int) < (l.length : Int) := by omega
     obtain ⟨oK, okc, oL, olc, rfl⟩ := st.val.fields
     have hO : ∀ W : World, Below wr.heap.size wr.drew W → W.cell? ⟨w.heap.size + 1 + 1, 0, none⟩ = some (.int .i64 6) ∧ W.cell? ⟨w.heap.size + 1 + 1, 1, none⟩ = some (.int .i64 0) ∧ W.cell? ⟨w.heap.size + 1 + 1, 2, none⟩ = some (.float .f64 0) ∧ W.cell? ⟨w.heap.size + 1 + 1, 3, none⟩ = some (.string ⟨#[]⟩) ∧
       W.cell? ⟨w.heap.size + 1 + 1, 4, none⟩ = some (.slice oK (mapC keys l k).length okc) ∧ W.cell? ⟨w.heap.size + 1 + 1, 5, none⟩ = some (.slice oL (mapC keys l k).length olc) ∧ ∀ i, W.frozen? ⟨w.heap.size + 1 + 1, i, none⟩ = false := fun W hW => by
      have O := st.O.below (below_of_drew hW) st.O.lt
      exact ⟨O.cell 0, O.cell 1, O.cell 2, O.cell 3, O.cell 4, O.cell 5, fun i => O.free i⟩
     obtain ⟨q0, q1, q2, q3, q4, q5, q6⟩ := hO wr.drew (Below.refl _ _)
     have HO := hide hO
     have Hst := hide st
     clear st hO
     go_wp2_with fail
     have hS0 : Round w.heap.size kb ko b o k keys.length kc l.length lc keys[k] (.int .i64 kind') (.int .i64 n') (.float .f64 f') (.string s') (.slice KA' keys'.length kc') (.slice LA' l'.length lc') (.int .i64 6) (.int .i64 0) (.float .f64 0) (.string ⟨#[]⟩) (.slice oK (mapC keys l k).length okc) (.slice oL (mapC keys l k).length olc) wr.drew := ⟨m4, m5, hkc, k0, k1, k2, k3, k4, k5, q0, q1, q2, q3, q4, q5⟩
     generalize hS : Round w.heap.size kb ko b o k keys.length kc l.length lc keys[k] (.int .i64 kind') (.int .i64 n') (.float .f64 f') (.string s') (.slice KA' keys'.length kc') (.slice LA' l'.length lc') (.int .i64 6) (.int .i64 0) (.float .f64 0) (.string ⟨#[]⟩) (.slice oK (mapC keys l k).length okc) (.slice oL (mapC keys l k).length olc) = S at hS0
     refine wp_region_head 12 S (by rfl) (by kernel_rfl) ?_
     iterate 11
      refine HT.nx (v := ?_) rfl (by kernel_rfl) (fun _ _ _ h => h) (Or.inl ⟨by rfl, ?_⟩) ‹_› ?_
      rotate_left
      ·intro W hSw; rw [← hS] at hSw; obtain ⟨s1, s2, s3, s4, s5, s6, s7, s8, s9, s10, s11, s12, s13, s14, s15⟩ := hSw; go_simp; with_reducible rfl
      simp only [Act.put, zzA, zzZ, zzS]
     refine HT.one 11 rfl (by kernel_rfl) (by rfl) (fun K hK => ?_)
     go_simp
     refine (hih wr.drew _ (Hkr.out wr.drew (fun b hb => rfl) (Nat.le_refl _))).mono ?_
     rintro e w1 ⟨ccs, rfl, hcc, hb1⟩
     obtain ⟨c0, c1, c2, c3, c4, c5, rfl⟩ := hcc.six
     go_simp
     refine hK.out _ _ (by rw [← hS] at hS0 ⊢; exact Round.below (B := wr.heap.size) hS0 hb1 Hst.out.O.lt hkl' hbl') ?_
     refine HT.done (by kernel_rfl) ?_
     simp only [List.drop_succ_cons, List.drop_zero]
     obtain ⟨v1, v2⟩ := smap_mid Hst.out hb1 hcc
     clear hS0 hS
     have hml : (mapC keys l k).length + 1 ≤ keys.length := by have := mapOf_take_length keys (l.map fun r => r.tree.toRV) k; unfold mapC; omega
     have hml2 : (mapC keys l k).length + 1 ≤ l.length := by have := mapOf_take_length keys (l.map fun r => r.tree.toRV) k; unfold mapC; omega
     have hwf := withField_calls (mapC keys l k) (mapOf_sorted _ _) _ w1 (fun b hb => hb.2) 6 0 0 ⟨#[]⟩ keys[k] _ _ _ (Nat.le_trans (Nat.mul_le_mul_right _ hml) H6.out) (Nat.le_trans (Nat.mul_le_mul_right _ hml2) H7.out) (H5.out _ (List.getElem_mem hlt)) v1 v2
     have Hwf := hide hwf
     clear hwf hml hml2 v1 v2
     have hO2 : ∀ W : World, Below w1.heap.size w1 W → W.cell? ⟨w.heap.size + 1 + 1, 0, none⟩ = some (.int .i64 6) ∧ W.cell? ⟨w.heap.size + 1 + 1, 1, none⟩ = some (.int .i64 0) ∧ W.cell? ⟨w.heap.size + 1 + 1, 2, none⟩ = some (.float .f64 0) ∧ W.cell? ⟨w.heap.size + 1 + 1, 3, none⟩ = some (.string ⟨#[]⟩) ∧
       W.cell? ⟨w.heap.size + 1 + 1, 4, none⟩ = some (.slice oK (mapC keys l k).length okc) ∧ W.cell? ⟨w.heap.size + 1 + 1, 5, none⟩ = some (.slice oL (mapC keys l k).length olc) ∧ ∀ i, W.frozen? ⟨w.heap.size + 1 + 1, i, none⟩ = false := fun W hW => by
      have O := (Hst.out.O.below (below_of_drew hb1) Hst.out.O.lt).below hW (Nat.lt_of_lt_of_le Hst.out.O.lt hb1.size)
      exact ⟨O.cell 0, O.cell 1, O.cell 2, O.cell 3, O.cell 4, O.cell 5, fun i => O.free i⟩
     have HO2 := hide hO2
     clear hO2
     go_wp2_with ((go_at_call 147; refine Hwf.out.mono ?_; rintro e w2 ⟨rcs, rfl, hrc, hb2⟩; obtain ⟨K2, k2, L2, l2, rfl⟩ := hrc.fields; obtain ⟨y0, y1, y2, y3, y4, y5, y6⟩ := HO2.out w2 hb2))
     have st2 := smap_step Hst.out hb1 hlt hl' Hgk.out hb2 hrc rfl rfl
     unfold set6 at st2
     generalize (World.setCell _ _ _) = W at st2 ⊢
     go_wp2
     exact ⟨⟨k + 1, _, hlt, hl', by simp, st2⟩, by simp [intOf]; omega⟩
   ·have hki1 : (k : Int) < (keys.length : Int) := by omega
    have hki2 : ¬ (k : Int) < (l.length : Int) := by omega
    have Hend := hide (show mapC keys l k = mapOf keys (l.map fun r => r.tree.toRV) from mapOf_take_all _ _ _ (by simp; omega))
    obtain ⟨oK, okc, oL, olc, rfl⟩ := st.val.fields
    obtain ⟨q0, q1, q2, q3, q4, q5, q6, q7, q8, q9, q10, q11, q12⟩ := smap_facts st
    have hki0 : (0 : Int) ≤ (k : Int) := Int.natCast_nonneg _
    have Hst := hide st
    clear st
    go_wp2
    have hfin := smap_fin Hst.out Hend.out
    unfold set6 at hfin
    generalize (World.setCell _ _ _) = W at hfin ⊢
    obtain ⟨hW1, hW2, hW3⟩ := hfin
    refine bodyPost_ret (results_cell_row rfl _ _ (w.heap.size + 1) 27 #[.int .i64 6, .int .i64 0, .float .f64 0, .string ⟨#[]⟩, .slice oK (mapC keys l k).length okc, .slice oL (mapC keys l k).length olc] (0, 0) _ rfl hW1 Tryz.underlying27 rfl (by kernel_rfl)) rfl ?_
    exact ⟨_, rfl, by rw [fieldsOf_toRV]; exact hW3, hW2⟩
  ·have hki1 : ¬ (k : Int) < (keys.length : Int) := by omega
   have Hend := hide (show mapC keys l k = mapOf keys (l.map fun r => r.tree.toRV) from mapOf_take_all _ _ _ (by simp; omega))
   obtain ⟨oK, okc, oL, olc, rfl⟩ := st.val.fields
   obtain ⟨q0, q1, q2, q3, q4, q5, q6, q7, q8, q9, q10, q11, q12⟩ := smap_facts st
   have hki0 : (0 : Int) ≤ (k : Int) := Int.natCast_nonneg _
   have Hst := hide st
   clear st
   go_wp2
   have hfin := smap_fin Hst.out Hend.out
   unfold set6 at hfin
   generalize (World.setCell _ _ _) = W at hfin ⊢
   obtain ⟨hW1, hW2, hW3⟩ := hfin
   refine bodyPost_ret (results_cell_row rfl _ _ (w.heap.size + 1) 27 #[.int .i64 6, .int .i64 0, .float .f64 0, .string ⟨#[]⟩, .slice oK (mapC keys l k).length okc, .slice oL (mapC keys l k).length olc] (0, 0) _ rfl hW1 Tryz.underlying27 rfl (by kernel_rfl)) rfl ?_
   exact ⟨_, rfl, by rw [fieldsOf_toRV]; exact hW3, hW2⟩

end Go.Proofs.YtbicoknghdgahaaGreat

namespace Go.Proofs.YtbicoknghdgahaaGreat
open Go.RowKit
attribute [local go_sem] run_store_float

def CLInv (B : Nat) (w : World) (l : List RV) (out ctr : Value) (wr : World) : Prop :=
 ∃ (k : Nat) (us : List Value), k ≤ l.length ∧ ctr = .int .i64 k ∧ wr.ownsRow B 27 6 out k us ∧ RVs (FrX B wr out) wr ((l.take k).map fun r => r.tree.toRV) us ∧ Below B w wr

theorem clist_step {B k : Nat} {w wr w1 w2 : World} {l : List RV} {out out' : Value} {us ccs : List Value} {o1 o2 : Obj} {r : RV} (hk : k < l.length) (hr : l[k]? = some r)
  (hown : wr.ownsRow B 27 6 out k us) (hus : RVs (FrX B wr out) wr ((l.take k).map fun r => r.tree.toRV) us) (hb : Below B w wr) (hB : w.heap.size = B)
  (hu : RVAt (fun b => False ∨ Fr (wr.alloc o1).heap.size w1 b) w1 r.tree.toRV ccs) (hb1 : Below (wr.alloc o1).heap.size (wr.alloc o1) w1)
  (hown2 : w2.ownsRow B 27 6 out' (k + 1) (us ++ ccs)) (hg : (w1.alloc o2).grownBy w2 out.ownBlock) (hat : out'.ownBlock = out.ownBlock ∨ out'.ownBlock = some (w1.alloc o2).heap.size) :
  CLInv B w l out' (.int .i64 ((k + 1 : Nat) : Int)) w2 := by
 have s0 := hb.size
 have s1 := hb1.size
 have s2 := hg.size
 simp only [World.size_alloc] at s1 s2
 have hlt := hown.lt
 have k2 : Keeps (FrX B wr out) wr w2 := by
  intro b hbb
  obtain ⟨q1, q2, q3⟩ := hbb
  rw [hg.block b (by simp only [World.size_alloc]; omega) q3, Below.heap_alloc _ _ _ (by omega), hb1.block b (by simp only [World.size_alloc]; omega), Below.heap_alloc _ _ _ q2]
 have g2 : ∀ b, FrX B wr out b → FrX B w2 out' b := by
  rintro b ⟨q1, q2, q3⟩
  refine ⟨q1, by omega, ?_⟩
  rcases hat with e | e <;> rw [e]
  ·exact q3
  ·simp only [World.size_alloc, ne_eq, Option.some.injEq]; omega
 have k3 : Keeps (fun b => False ∨ Fr (wr.alloc o1).heap.size w1 b) w1 w2 := by
  rintro b (hbb | hbb)
  ·exact hbb.elim
  obtain ⟨q1, q2⟩ := hbb
  simp only [World.size_alloc] at q1
  rw [hg.block b (by simp only [World.size_alloc]; omega) (fun e => by have := (hlt b e.symm).2; omega), Below.heap_alloc _ _ _ q2]
 have g3 : ∀ b, (False ∨ Fr (wr.alloc o1).heap.size w1 b) → FrX B w2 out' b := by
  rintro b (hbb | ⟨q1, q2⟩)
  ·exact hbb.elim
  simp only [World.size_alloc] at q1
  refine ⟨by omega, by omega, ?_⟩
  rcases hat with e | e <;> rw [e]
  ·intro e'; have := (hlt b e'.symm).2; omega
  ·simp only [World.size_alloc, ne_eq, Option.some.injEq]; omega
 have hr' : l[k] = r := by rw [List.getElem?_eq_getElem hk] at hr; exact Option.some.inj hr
 refine ⟨k + 1, us ++ ccs, by omega, rfl, hown2, ?_, ?_⟩
 ·rw [List.take_succ_eq_append_getElem hk, List.map_append, hr']
  exact ((hus.keeps k2).mono g2).append (RVs.one ((hu.keeps k3).mono g3))
 ·refine ((hb.alloc (by omega) o1).trans (hb1.mono (by simp only [World.size_alloc]; omega))).alloc (by omega) o2 |>.grown hg (by simp only [World.size_alloc]; omega) (fun g e => (hlt g e).1)

def GivesRow (rs : List RV) (w : World) (e : Ending) (w' : World) : Prop :=
 ∃ A c xs, e = .returned (.slice A rs.length c) ∧ rs.length ≤ c ∧ c ≤ maxLen ∧ Row (Fr w.heap.size w') w' 6 A rs.length xs ∧ RVs (Fr w.heap.size w') w' rs xs ∧ Below w.heap.size w w'

theorem clist_end {w wr : World} {l : List RV} {out : Value} {us : List Value} (hown : wr.ownsRow w.heap.size 27 6 out l.length us) (hus : RVs (FrX w.heap.size wr out) wr (l.map fun r => r.tree.toRV) us) (hb : Below w.heap.size w wr) :
  GivesRow (l.map fun r => r.tree.toRV) w (.returned out) wr := by
 have hlt := hown.lt
 obtain ⟨A, c, rfl, h1, h2⟩ := own_form hown
 refine ⟨A, c, us, by simp, by simpa using h1, h2, ?_, hus.mono fun b hb => frx_fresh b hb, hb⟩
 rw [List.length_map]
 exact Row.of_own hown fun g hg => ⟨(hlt g (by simpa using hg)).1, (hlt g (by simpa using hg)).2⟩

set_option maxRecDepth 100000 in
set_option maxHeartbeats 1000000 in
theorem plainList_ok (l : List RV) (LA : Option Addr) (lc : Nat) (w : World) (xs : List Value) (hl : l.length * 88 ≤ R47) (ih : AllClean l)
  (hrow : Row (Old w) w 6 LA l.length xs) (hx : ∀ i r, l[i]? = some r → RVAt (Old w) w r ((xs.drop (i * 6)).take 6)) :
  Calls Tryz.prog 92 #[.slice LA l.length lc] w (GivesRow (l.map fun r => r.tree.toRV) w) := by
 obtain ⟨i26, hi26, hz26, hs26, hb26⟩ := info_parts val_info
 have hlb : l.length * 88 ≤ 140737488351232 := hl
 have Hl := hide hl
 have Hrow := hide hrow
 have Hx := hide hx
 clear hl hrow hx
 go_enter Tryz.func92, Tryz.ntmps92
 go_wp2_with (at_make; refine wpList_make_own _ rfl _ _ 23 rfl w.heap.size 27 i26 _ 6 Tryz.underlying23 hi26 hz26 hs26 _ _ _ l.length rfl rfl rfl ?b2 ?b3 ?b4 ?_)
 case b2 => rw [hb26]; omega
 case b3 => unfold maxLen; omega
 case b4 => simp
 intro w0 hown0 hgrow0
 have hb0 : Below w.heap.size w w0 := (Below.refl _ _).grown hgrow0 (by simp) (fun k h => by cases h)
 obtain ⟨hc0, hf0⟩ := gcell hgrow0
 go_wp2
 clear hc0 hf0 hgrow0
 go_loopw [3, 11] (fun out ctr wr => CLInv w.heap.size w l out ctr wr) (fun _ ctr _ => l.length - (intOf ctr).toNat)
 case atStart => exact ⟨0, [], Nat.zero_le _, rfl, hown0, RVs.nil_, hb0⟩
 case round =>
  obtain ⟨k, us, hk, rfl, hown, hus, hb⟩ := hrel
  by_cases hlt : k < l.length
  ·have hgk : l[k]? = some l[k] := List.getElem?_eq_getElem hlt
   have hrk := (Hx.out k _ hgk)
   have hih := ih l[k] (List.getElem_mem hlt)
   generalize l[k] = r at hgk hrk hih
   have Hgk := hide hgk
   clear hgk ih hown0
   have hkr := hrk
   generalize hcs : (xs.drop (k * 6)).take 6 = cs at hrk hkr
   cases hrk with
   | @mk kind' n' f' s' keys' l' KA' LA' kc' lc' xs' h1 h2 h3 h4 h5 h6 h7 h8 h9 h10 h11 h12 h13 h14 =>
    clear h1 h2 h3 h4 h5 h6 h7 h8 h9 h10 h11 h12 h13 h14
    obtain ⟨b, o, rfl, hF, k0, k1, k2, k3, k4, k5⟩ := row6_at Hrow.out hlt hcs
    have Hcs := hide hcs
    clear hcs
    have hlt' := hb.block
    rw [← (bcell hb).1 _ _ hF] at k0 k1 k2 k3 k4 k5
    go_wp2_with fail
    refine (hih _ _ (hkr.keeps (Keeps.trans (Keeps.below hb fun x hx => hx) (Keeps.alloc _ _ fun x hx => Nat.lt_of_lt_of_le hx hb.size)) |>.mono (fun x hx => ?_))).mono ?_
    ·simp only [Old, World.size_alloc] at hx ⊢
     have := hb.size
     omega
    rintro e w1 ⟨ccs, rfl, hcc, hb1⟩
    obtain ⟨c0, c1, c2, c3, c4, c5, rfl⟩ := hcc.six
    have hones := (RVs.one hcc).ones
    go_wp2_with (at_builtin; refine wpList_append_own_at _ rfl (.tmp 15) (.tmp 18) 23 rfl w.heap.size 27 i26 _ 6 88 Tryz.underlying23 hi26 hz26 hs26 hb26 rfl (by omega) _ k us rfl ((ownsRow_below (hown.alloc _) hb1 (Nat.le_refl _)).alloc _) ⟨w1.heap.size, 0, none⟩ 1 1 [c0, c1, c2, c3, c4, c5] rfl rfl (cells_at _ [c0, c1, c2, c3, c4, c5] _ _ (by simp)) ?c1 ?c2 ?c3 ?c4 ?_)
    case c1 => exact hones
    case c2 => unfold maxLen; omega
    case c3 => omega
    case c4 => have := hb.size; have := hb1.size; simp only [World.size_alloc] at *; omega
    intro out' w2 hown2 hg2 _ hat2
    have Hinv := hide (clist_step hlt Hgk.out hown hus hb rfl hcc hb1 hown2 hg2 (by rw [World.size_alloc]; exact hat2))
    clear hus hown hown2 hcc hb1 hg2 hat2 hones
    go_wp2
    go_roundw
    case rel => exact Hinv.out
    case measure => simp [intOf]; omega
  ·have : k = l.length := by omega
   subst this
   go_wp2
   go_ret
   rw [List.take_length] at hus
   exact clist_end hown hus hb

theorem clean_flat {fn : Func} {p : Tmp} (hfn : fn.results = #[.cell p 27]) (tmps : Array Value) (w : World) (o1 : Obj) (kind n : Int) (f : Nat) (s : ByteArray) {rr : RV} (hrr : rr = .mk kind n f s [] []) (h1 : okInt kind) (h2 : okInt n) (h3 : f < B64) (h4 : s.size ≤ R47)
  (hp : tmps.getD p undef = .pointer (some ⟨w.heap.size + 1, 0, none⟩)) :
  bodyPost Tryz.prog fn (GivesRV (fun _ => False) rr w) .ret { tmps := tmps, defers := [] } ((w.alloc o1).alloc (.cells #[.int .i64 kind, .int .i64 n, .float .f64 f, .string s, .slice none 0 0, .slice none 0 0] 27)) := by
 subst hrr
 have hB := Bk.new (w.alloc o1) 27 #[.int .i64 kind, .int .i64 n, .float .f64 f, .string s, .slice none 0 0, .slice none 0 0]
 simp only [World.size_alloc] at hB
 refine bodyPost_ret (results_cell_row hfn _ _ (w.heap.size + 1) 27 #[.int .i64 kind, .int .i64 n, .float .f64 f, .string s, .slice none 0 0, .slice none 0 0] (0, 0) _ hp hB Tryz.underlying27 rfl (by kernel_rfl)) rfl ?_
 exact ⟨_, rfl, RVAt.flat _ _ _ _ h1 h2 h3 h4, ((Below.refl _ _).alloc (Nat.le_refl _) _).alloc (by simp) _⟩

theorem i5 : okInt 5 := ⟨by decide, by decide⟩

set_option maxRecDepth 100000 in
set_option maxHeartbeats 400000 in
theorem clean_scalar (kind n : Int) (f : Nat) (s : ByteArray) (keys : List ByteArray) (l : List RV) (kv lv : Value) (w : World) (h5 : kind ≠ 5) (h6 : kind ≠ 6) (hn : okInt n) (hf : f < B64) (hs : s.size ≤ R47) :
  Calls Tryz.prog 42 #[.agg #[.int .i64 kind, .int .i64 n, .float .f64 f, .string s, kv, lv]] w (GivesRV (fun _ => False) (RV.mk kind n f s keys l).tree.toRV w) := by
 by_cases h1 : kind = 1
 ·subst h1
  have ht : (RV.mk 1 n f s keys l).tree = .bool (n != 0) := by simp [RV.tree]
  rw [ht]
  clear hn hf hs h5 h6 ht
  by_cases hz : n = 0
  ·subst hz
   go_enter Tryz.func42, Tryz.ntmps42
   go_wp2
   exact clean_flat rfl _ _ _ 1 0 0 ⟨#[]⟩ rfl i1 i0 (by decide) (by decide) rfl
  ·have e0 : (n == 0) = false := by simpa using hz
   have e1 : (n != 0) = true := by simpa using hz
   go_enter Tryz.func42, Tryz.ntmps42
   go_wp2
   exact clean_flat rfl _ _ _ 1 1 0 ⟨#[]⟩ (by rw [e1]; rfl) i1 i1 (by decide) (by decide) rfl
 by_cases h2 : kind = 2
 ·subst h2
  have ht : (RV.mk 2 n f s keys l).tree = .int n := by simp [RV.tree]
  rw [ht]
  have hn' := hide hn
  clear hn hf hs h5 h6 ht
  go_enter Tryz.func42, Tryz.ntmps42
  go_wp2
  exact clean_flat rfl _ _ _ 2 n 0 ⟨#[]⟩ rfl ⟨by decide, by decide⟩ hn'.out (by decide) (by decide) rfl
 by_cases h3 : kind = 3
 ·subst h3
  have ht : (RV.mk 3 n f s keys l).tree = .flt f := by simp [RV.tree]
  rw [ht]
  have hf' := hide hf
  clear hn hf hs h5 h6 ht
  go_enter Tryz.func42, Tryz.ntmps42
  go_wp2
  exact clean_flat rfl _ _ _ 3 0 f ⟨#[]⟩ rfl ⟨by decide, by decide⟩ i0 hf'.out (by decide) rfl
 by_cases h4 : kind = 4
 ·subst h4
  have ht : (RV.mk 4 n f s keys l).tree = .str s := by simp [RV.tree]
  rw [ht]
  have hs' := hide hs
  clear hn hf hs h5 h6 ht
  go_enter Tryz.func42, Tryz.ntmps42
  go_wp2
  exact clean_flat rfl _ _ _ 4 0 0 s rfl ⟨by decide, by decide⟩ i0 (by decide) hs'.out rfl
 have ht : (RV.mk kind n f s keys l).tree = .null := by simp [RV.tree, h1, h2, h3, h4, h5, h6]
 rw [ht]
 have e1 : (kind == 1) = false := by simpa using h1
 have e2 : (kind == 2) = false := by simpa using h2
 have e3 : (kind == 3) = false := by simpa using h3
 have e4 : (kind == 4) = false := by simpa using h4
 have e5 : (kind == 5) = false := by simpa using h5
 have e6 : (kind == 6) = false := by simpa using h6
 clear hn hf hs h1 h2 h3 h4 h5 h6 ht
 go_enter Tryz.func42, Tryz.ntmps42
 go_wp2
 exact clean_flat rfl _ _ _ 0 0 0 ⟨#[]⟩ rfl i0 i0 (by decide) (by decide) rfl

theorem clean_ret {fn : Func} {p : Tmp} (hfn : fn.results = #[.cell p 27]) (tmps : Array Value) {w w1 : World} {cs : List Value} {rr : RV} {c0 c1 c2 c3 c4 c5 a0 a1 a2 a3 a4 a5 : Value} (hR : Bk w1 (w.heap.size + 1) 27 #[a0, a1, a2, a3, a4, a5]) (hb : Below w.heap.size w w1)
  (hcs : cs = [c0, c1, c2, c3, c4, c5]) (hv : RVAt (fun b => w.heap.size + 2 ≤ b ∧ b < w1.heap.size) w1 rr cs) (hp : tmps.getD p undef = .pointer (some ⟨w.heap.size + 1, 0, none⟩)) :
  bodyPost Tryz.prog fn (GivesRV (fun _ => False) rr w) .ret { tmps := tmps, defers := [] } (set6 w1 (w.heap.size + 1) c0 c1 c2 c3 c4 c5) := by
 subst hcs
 refine bodyPost_ret (results_cell_row hfn _ _ (w.heap.size + 1) 27 #[c0, c1, c2, c3, c4, c5] (0, 0) _ hp (set6_same _ _ _ _ _ _ hR) Tryz.underlying27 rfl (by kernel_rfl)) rfl ?_
 refine ⟨_, rfl, (hv.keeps fun b hb => set6_heap _ _ _ _ _ _ _ _ _ (by have := hb.1; omega)).mono fun b hb => .inr ⟨by have := hb.1; omega, by rw [set6_size]; exact hb.2⟩, set6_below _ _ _ _ _ _ hb (by omega)⟩

set_option maxRecDepth 100000 in
set_option maxHeartbeats 400000 in
theorem clean_list (n : Int) (f : Nat) (s : ByteArray) (keys : List ByteArray) (l : List RV) (w : World) (cs : List Value) (ih : AllClean l) (hrv : RVAt (Old w) w (.mk 5 n f s keys l) cs) :
  Calls Tryz.prog 42 #[.agg cs.toArray] w (GivesRV (fun _ => False) (RV.mk 5 n f s keys l).tree.toRV w) := by
 have ht : (RV.mk 5 n f s keys l).tree.toRV = .mk 5 0 0 ⟨#[]⟩ [] (l.map fun r => r.tree.toRV) := by simp [RV.tree, treeL_eq, T.toRV, toRVL_eq]; rfl
 rw [ht]
 cases hrv with
 | @mk _ _ _ _ _ _ KA LA kc lc xs h1 h2 h3 h4 h5 h6 h7 h8 h9 h10 h11 hKrow hLrow hx =>
 have hpl : ∀ W : World, (∀ b, b < w.heap.size → W.heap[b]? = w.heap[b]?) → w.heap.size ≤ W.heap.size → Calls Tryz.prog 92 #[.slice LA l.length lc] W (GivesRow (l.map fun r => r.tree.toRV) W) := fun W k1 k2 =>
  plainList_ok l LA lc W xs h7 ih ((hLrow.keeps (w' := W) fun b hb => k1 b hb).mono fun b hb => Nat.lt_of_lt_of_le hb k2) fun i r hr => ((hx i r hr).keeps (w' := W) fun b hb => k1 b hb).mono fun b hb => Nat.lt_of_lt_of_le hb k2
 have Hpl := hide hpl
 have H7 := hide h7
 clear h1 h2 h3 h4 h5 h6 h7 h8 h9 h10 h11 hKrow hLrow hx hpl ht
 go_enter Tryz.func42, Tryz.ntmps42
 go_wp2_with fail
 refine (Hpl.out _ (fun b hb => (Below.heap_alloc _ _ _ (by simp; omega)).trans (Below.heap_alloc _ _ _ hb)) (by simp; omega)).mono ?_
 rintro e w1 ⟨A, c, xs', rfl, g1, g2, hrow, hrvs, hb1⟩
 have hB0 := Bk.new (w.alloc (.cells #[.int .i64 5, .int .i64 n, .float .f64 f, .string s, .slice KA keys.length kc, .slice LA l.length lc] 27)) 27 #[.int .i64 0, .int .i64 0, .float .f64 0, .string ⟨#[]⟩, .slice none 0 0, .slice none 0 0]
 simp only [World.size_alloc] at hB0
 have hB1 := hB0.below hb1 (by simp)
 have hbw : Below w.heap.size w w1 := (((Below.refl _ _).alloc (Nat.le_refl _) _).alloc (by simp) _).trans (hb1.mono (by simp; omega))
 have hval : RVAt (fun b => w.heap.size + 2 ≤ b ∧ b < w1.heap.size) w1 (.mk 5 0 0 ⟨#[]⟩ [] (l.map fun r => r.tree.toRV)) [.int .i64 5, .int .i64 0, .float .f64 0, .string ⟨#[]⟩, .slice none 0 0, .slice A l.length c] := by
  have hm : ∀ b, Fr ((w.alloc (.cells #[.int .i64 5, .int .i64 n, .float .f64 f, .string s, .slice KA keys.length kc, .slice LA l.length lc] 27)).alloc (.cells #[.int .i64 0, .int .i64 0, .float .f64 0, .string ⟨#[]⟩, .slice none 0 0, .slice none 0 0] 27)).heap.size w1 b → w.heap.size + 2 ≤ b ∧ b < w1.heap.size := fun b hb => ⟨by have := hb.1; simp only [World.size_alloc] at this; omega, hb.2⟩
  have hq := RVAt.mk (f := 0) (s := ⟨#[]⟩) (keys := []) (KA := none) (kc := 0) i5 i0 (by decide) (by decide) (by simp) (by simp [R47]) (by rw [List.length_map]; exact H7.out) (by simp) (by simp) g1 g2 Row.nil_ (hrow.mono hm) (hrvs.mono hm).2
  rw [List.length_map] at hq
  exact hq
 have HV := hide hval
 have HB := hide hB1
 have q0 := hB1.cell 0
 have q1 := hB1.cell 1
 have q2 := hB1.cell 2
 have q3 := hB1.cell 3
 have q4 := hB1.cell 4
 have q5 := hB1.cell 5
 have q6 : ∀ i, w1.frozen? ⟨w.heap.size + 1, i, none⟩ = false := fun i => hB1.free i
 simp at q0 q1 q2 q3 q4 q5
 have Hbw := hide hbw
 clear hB0 hB1 hval hrow hrvs hb1 hbw
 go_wp2
 exact clean_ret rfl _ HB.out Hbw.out rfl HV.out rfl

set_option maxRecDepth 100000 in
set_option maxHeartbeats 400000 in
theorem clean_map (n : Int) (f : Nat) (s : ByteArray) (keys : List ByteArray) (l : List RV) (w : World) (cs : List Value) (hm : PlainMapOK (.mk 6 n f s keys l)) (hrv : RVAt (Old w) w (.mk 6 n f s keys l) cs) :
  Calls Tryz.prog 42 #[.agg cs.toArray] w (GivesRV (fun _ => False) (RV.mk 6 n f s keys l).tree.toRV w) := by
 have ht : (RV.mk 6 n f s keys l).tree.toRV = fieldsRV (mapOf keys (l.map fun r => r.tree.toRV)) := by rw [← fieldsOf_toRV 6 n f s]; simp [RV.tree, RV.fieldsOf, treeL_eq]
 rw [ht]
 have hm' : ∀ (w : World) (cs : List Value), RVAt (Old w) w (.mk 6 n f s keys l) cs → Calls Tryz.prog 93 #[.agg cs.toArray] w (GivesRV (fun _ => False) (fieldsRV (mapOf keys (l.map fun r => r.tree.toRV))) w) := by
  have := hm
  unfold PlainMapOK at this
  rw [fieldsOf_toRV] at this
  exact this
 have Hm := hide hm'
 clear hm hm' ht
 have Hrv := hide hrv
 cases hrv with
 | @mk _ _ _ _ _ _ KA LA kc lc xs h1 h2 h3 h4 h5 h6 h7 h8 h9 h10 h11 hKrow hLrow hx =>
 clear h1 h2 h3 h4 h5 h6 h7 h8 h9 h10 h11 hKrow hLrow hx
 go_enter Tryz.func42, Tryz.ntmps42
 go_wp2_with fail
 refine (Hm.out _ _ ((Hrv.out.keeps (w' := (w.alloc (.cells #[.int .i64 6, .int .i64 n, .float .f64 f, .string s, .slice KA keys.length kc, .slice LA l.length lc] 27)).alloc (.cells #[.int .i64 0, .int .i64 0, .float .f64 0, .string ⟨#[]⟩, .slice none 0 0, .slice none 0 0] 27)) fun b hb => (Below.heap_alloc _ _ _ (Nat.lt_of_lt_of_le hb (by simp))).trans (Below.heap_alloc _ _ _ hb)).mono fun b hb => Nat.lt_of_lt_of_le hb (by simp; omega))).mono ?_
 rintro e w1 ⟨ccs, rfl, hcc, hb1⟩
 have hB0 := Bk.new (w.alloc (.cells #[.int .i64 6, .int .i64 n, .float .f64 f, .string s, .slice KA keys.length kc, .slice LA l.length lc] 27)) 27 #[.int .i64 0, .int .i64 0, .float .f64 0, .string ⟨#[]⟩, .slice none 0 0, .slice none 0 0]
 simp only [World.size_alloc] at hB0
 have hB1 := hB0.below hb1 (by simp)
 have hbw : Below w.heap.size w w1 := (((Below.refl _ _).alloc (Nat.le_refl _) _).alloc (by simp) _).trans (hb1.mono (by simp; omega))
 have hval : RVAt (fun b => w.heap.size + 2 ≤ b ∧ b < w1.heap.size) w1 (fieldsRV (mapOf keys (l.map fun r => r.tree.toRV))) ccs := hcc.mono fun b hb => by
  rcases hb with hb | hb
  ·exact hb.elim
  ·exact ⟨by have := hb.1; simp only [World.size_alloc] at this; omega, hb.2⟩
 obtain ⟨K2, k2, L2, l2, rfl⟩ := hcc.fields
 have HV := hide hval
 have HB := hide hB1
 have q0 := hB1.cell 0
 have q1 := hB1.cell 1
 have q2 := hB1.cell 2
 have q3 := hB1.cell 3
 have q4 := hB1.cell 4
 have q5 := hB1.cell 5
 have q6 : ∀ i, w1.frozen? ⟨w.heap.size + 1, i, none⟩ = false := fun i => hB1.free i
 simp at q0 q1 q2 q3 q4 q5
 have Hbw := hide hbw
 clear hB0 hB1 hval hcc hb1 hbw
 go_wp2
 exact clean_ret rfl _ HB.out Hbw.out rfl HV.out rfl

theorem clean_all : ∀ (m : Nat) (rv : RV), rv.rank < m → CleanOK rv
 | 0, _, h => absurd h (by omega)
 | m + 1, .mk kind n f s keys l, h => by
  have ih : AllClean l := fun r hr => clean_all m r (by have := RV.rank_lt (kind := kind) (n := n) (f := f) (s := s) (keys := keys) hr; omega)
  intro w cs hrv
  by_cases h5 : kind = 5
  ·subst h5
   exact clean_list n f s keys l w cs ih hrv
  by_cases h6 : kind = 6
  ·subst h6
   exact clean_map n f s keys l w cs (specPlainMap_ok 6 n f s keys l ih) hrv
  cases hrv with
  | mk h1 h2 h3 h4 _ _ _ _ _ _ _ _ _ _ => exact clean_scalar kind n f s keys l _ _ w h5 h6 h2 h3 h4

theorem clean_calls (rv : RV) : CleanOK rv := clean_all _ rv (Nat.lt_succ_self _)

end Go.Proofs.YtbicoknghdgahaaGreat
