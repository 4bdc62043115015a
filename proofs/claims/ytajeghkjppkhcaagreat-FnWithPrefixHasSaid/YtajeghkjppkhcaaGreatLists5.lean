/-
  The law FnListsAsValues: what its two drawn regions stand on.
-/
import Derived.Test.YtajeghkjppkhcaaGreatFieldH
import Derived.Test.YtajeghkjppkhcaaGreatListing
import Derived.Test.YtajeghkjppkhcaaGreatMapsA
set_option linter.unusedVariables false
set_option linter.unusedSimpArgs false
namespace Go.Proofs.YtajeghkjppkhcaaGreat
open Go.RowKit
attribute [local go_sem] run_store_float

/-- the fields of a value, as the struct of kind map -/
def FRV (keys : List ByteArray) (l : List RV) : RV := .mk 6 0 0 ⟨#[]⟩ keys l
theorem FRV.tree (keys : List ByteArray) (l : List RV) (kd n : Int) (f : Nat) (s : ByteArray) : (FRV keys l).tree = .map (RV.mk kd n f s keys l).flds := by
  rw [FRV, RV.tree, treeL_eq, RV.flds]
  simp
theorem RVAt.listOf {F : Nat → Prop} {w : World} {kd n : Int} {f : Nat} {s : ByteArray} {keys : List ByteArray} {l : List RV} {c0 c1 c2 c3 c4 c5 : Value} (h : RVAt F w (.mk kd n f s keys l) [c0, c1, c2, c3, c4, c5]) :
    RVAt F w (LRV l) [.int .i64 5, .int .i64 0, .float .f64 0, .string ⟨#[]⟩, .slice none 0 0, c5] := by
  cases h with
  | @mk _ _ _ _ _ _ KA LA kc lc xs h1 h2 h3 h4 h5 h6 h7 h8 h9 h10 h11 hK hL hx =>
  exact RVAt.mk (f := 0) (s := ⟨#[]⟩) (keys := []) (KA := none) (kc := 0) ⟨by decide, by decide⟩ ⟨by decide, by decide⟩ (by decide) (by decide) (by simp) (by simp [R47]) h7 (by simp) (by simp) h10 h11 Row.nil_ hL hx
/-- a zero struct -/
def Zst (W : World) (g : Nat) : Prop := Bk W g 31 #[.int .i64 0, .int .i64 0, .float .f64 0, .string ⟨#[]⟩, .slice none 0 0, .slice none 0 0]
/-- four boxes, of which those that D tells are made -/
def Four (W : World) (B : Nat) (D : Fin 4 → Bool) (x : Fin 4 → Value) : Prop :=
  ∃ p : Fin 4 → Nat, (∀ i, D i = true → x i = .pointer (some ⟨p i, 0, none⟩) ∧ B ≤ p i ∧ Zst W (p i)) ∧ ∀ i j, D i = true → D j = true → i ≠ j → p i ≠ p j
theorem Four.below {W W' : World} {B : Nat} {D D' : Fin 4 → Bool} {x : Fin 4 → Value} (h : Four W B D x) (hb : Below W.heap.size W W') (hD : ∀ j, D' j = true → D j = true) : Four W' B D' x := by
  obtain ⟨p, h1, h2⟩ := h
  exact ⟨p, fun i hi => ⟨(h1 i (hD i hi)).1, (h1 i (hD i hi)).2.1, (h1 i (hD i hi)).2.2.below hb (Bk.lt (h1 i (hD i hi)).2.2)⟩, fun i j hi hj => h2 i j (hD i hi) (hD j hj)⟩
theorem Four.alloc {W : World} {B : Nat} {D D' : Fin 4 → Bool} {x : Fin 4 → Value} (h : Four W B D x) (i : Fin 4) (hB : B ≤ W.heap.size) (hD : ∀ j, D' j = true → j = i ∨ D j = true) :
    Four (W.alloc (.cells #[.int .i64 0, .int .i64 0, .float .f64 0, .string ⟨#[]⟩, .slice none 0 0, .slice none 0 0] 31)) B D' (fun j => if j = i then .pointer (some ⟨W.heap.size, 0, none⟩) else x j) := by
  obtain ⟨p, h1, h2⟩ := h
  refine ⟨fun j => if j = i then W.heap.size else p j, fun j hj => ?_, fun j k hj hk hjk => ?_⟩
  · by_cases hji : j = i
    · subst hji
      simp only [if_true]
      exact ⟨trivial, hB, Bk.new _ _ _⟩
    · have := h1 j ((hD j hj).resolve_left hji)
      simp only [hji, if_false]
      exact ⟨this.1, this.2.1, Bk.alloc this.2.2 _⟩
  · by_cases hji : j = i
    · subst hji
      have hkj : ¬ k = j := fun e => hjk e.symm
      have := Bk.lt (h1 k ((hD k hk).resolve_left hkj)).2.2
      simp only [if_true, hkj, if_false]
      omega
    · by_cases hki : k = i
      · subst hki
        have := Bk.lt (h1 j ((hD j hj).resolve_left hji)).2.2
        simp only [if_true, hji, if_false]
        omega
      · simp only [hji, hki, if_false]
        exact h2 j k ((hD j hj).resolve_left hji) ((hD k hk).resolve_left hki) hjk
/-- the slots that the region's calls and allocs fill -/
def upd8 (a0 : Act) (x c : Fin 4 → Value) : Act :=
  { a0 with tmps := (((((((a0.tmps.setIfInBounds 5 (x 0)).setIfInBounds 6 (x 1)).setIfInBounds 7 (x 2)).setIfInBounds 8 (x 3)).setIfInBounds 29 (c 0)).setIfInBounds 32 (c 1)).setIfInBounds 37 (c 2)).setIfInBounds 42 (c 3) }
def Reg5 (w : World) (a0 a1 a2 a3 a4 a5 b0 b1 b2 b3 b4 b5 : Value) (V : Fin 4 → Value) (s0 : Act) (listed : Array Bool) (a : Act) (W : World) : Prop :=
  ∃ x c : Fin 4 → Value, a = upd8 s0 x c ∧ W2 w a0 a1 a2 a3 a4 a5 b0 b1 b2 b3 b4 b5 W ∧ (∀ j ∈ [0, 1, 3, 4, 6, 7, 8, 9, 11, 12, 13, 14], listed.getD j true = true) ∧
    (listed.getD 2 true = true → c 0 = V 0) ∧ (listed.getD 5 true = true → c 1 = V 1) ∧ (listed.getD 10 true = true → c 2 = V 2) ∧ (listed.getD 15 true = true → c 3 = V 3) ∧
    Four W (w.heap.size + 2) (fun j => listed.getD (16 + j.val) true) x

def base5 (listed : Array Bool) : Bool := ([0, 1, 3, 4, 6, 7, 8, 9, 11, 12, 13, 14].all fun j => listed.getD j true) && ([2, 5, 10, 15, 16, 17, 18, 19].all fun j => !listed.getD j true)
theorem Reg5.base {w W : World} {a0 a1 a2 a3 a4 a5 b0 b1 b2 b3 b4 b5 : Value} {V : Fin 4 → Value} {s0 : Act} {listed : Array Bool} (st : W2 w a0 a1 a2 a3 a4 a5 b0 b1 b2 b3 b4 b5 W) (hb : base5 listed = true) (hs : s0 = upd8 s0 (fun _ => undef) (fun _ => undef)) :
    Reg5 w a0 a1 a2 a3 a4 a5 b0 b1 b2 b3 b4 b5 V s0 listed s0 W := by
  simp only [base5, Bool.and_eq_true] at hb
  obtain ⟨h1, h2⟩ := hb
  have h2' : ∀ j ∈ [2, 5, 10, 15, 16, 17, 18, 19], listed.getD j true = false := fun j hj => by
    have := List.all_eq_true.1 h2 j hj
    simpa using this
  have hn : ∀ j ∈ [2, 5, 10, 15, 16, 17, 18, 19], ¬ listed.getD j true = true := fun j hj h => by
    rw [h2' j hj] at h
    cases h
  have hf : ∀ j : Fin 4, ¬ listed.getD (16 + j.val) true = true := fun j => hn _ (by
    have := j.isLt
    simp only [List.mem_cons, List.not_mem_nil, or_false]
    omega)
  exact ⟨fun _ => undef, fun _ => undef, hs, st, fun j hj => List.all_eq_true.1 h1 j hj, fun h => absurd h (hn 2 (by simp)), fun h => absurd h (hn 5 (by simp)), fun h => absurd h (hn 10 (by simp)), fun h => absurd h (hn 15 (by simp)),
    fun _ => 0, fun i hi => absurd hi (hf i), fun i j hi => absurd hi (hf i)⟩

/-- the boxes of the law's two arguments and of the four structs made of them -/
structure WL (w : World) (p q r s : Nat) (a0 a1 a2 a3 a4 a5 b0 b1 b2 b3 b4 b5 : Value) (W : World) : Prop where
  st : W2 w a0 a1 a2 a3 a4 a5 b0 b1 b2 b3 b4 b5 W
  x : Bx W p (.int .i64 5) (.int .i64 0) (.float .f64 0) (.string ⟨#[]⟩) (.slice none 0 0) a5
  y : Bx W q (.int .i64 5) (.int .i64 0) (.float .f64 0) (.string ⟨#[]⟩) (.slice none 0 0) b5
  m : Bx W r (.int .i64 6) (.int .i64 0) (.float .f64 0) (.string ⟨#[]⟩) a4 a5
  n : Bx W s (.int .i64 6) (.int .i64 0) (.float .f64 0) (.string ⟨#[]⟩) b4 b5
  lt : p < W.heap.size ∧ q < W.heap.size ∧ r < W.heap.size ∧ s < W.heap.size
theorem WL.call {w W W' : World} {p q r s : Nat} {a0 a1 a2 a3 a4 a5 b0 b1 b2 b3 b4 b5 : Value} (h : WL w p q r s a0 a1 a2 a3 a4 a5 b0 b1 b2 b3 b4 b5 W) (hb : Below W.heap.size W W') : WL w p q r s a0 a1 a2 a3 a4 a5 b0 b1 b2 b3 b4 b5 W' := by
  obtain ⟨l1, l2, l3, l4⟩ := h.lt
  have := hb.size
  exact ⟨h.st.call hb, h.x.below hb l1, h.y.below hb l2, h.m.below hb l3, h.n.below hb l4, by omega, by omega, by omega, by omega⟩

theorem Bx.st6 {W : World} {g p : Nat} {c0 c1 c2 c3 c4 c5 : Value} (h : Bx W g c0 c1 c2 c3 c4 c5) (hne : g ≠ p) (d0 d1 d2 d3 d4 d5 : Value) : Bx (set6 W p d0 d1 d2 d3 d4 d5) g c0 c1 c2 c3 c4 c5 := by
  have e : ∀ i, (Proofs.YtajeghkjppkhcaaGreat.set6 W p d0 d1 d2 d3 d4 d5).cell? ⟨g, i, none⟩ = W.cell? ⟨g, i, none⟩ := fun i => by
    unfold World.cell?
    rw [set6_heap _ _ _ _ _ _ _ _ _ (show g ≠ p from hne)]
  exact ⟨(e 0).trans h.k0, (e 1).trans h.k1, (e 2).trans h.k2, (e 3).trans h.k3, (e 4).trans h.k4, (e 5).trans h.k5⟩
theorem Zst.st6 {W : World} {g p : Nat} (h : Zst W g) (hne : g ≠ p) (d0 d1 d2 d3 d4 d5 : Value) : Zst (set6 W p d0 d1 d2 d3 d4 d5) g := by
  unfold Zst Bk at *
  rw [set6_heap _ _ _ _ _ _ _ _ _ hne]
  exact h
theorem Zst.made {W : World} {p : Nat} (h : Zst W p) (d0 d1 d2 d3 d4 d5 : Value) : Bx (set6 W p d0 d1 d2 d3 d4 d5) p d0 d1 d2 d3 d4 d5 := Bx.of (set6_same _ _ _ _ _ _ h)
theorem W2.st6 {w W : World} {p : Nat} {a0 a1 a2 a3 a4 a5 b0 b1 b2 b3 b4 b5 : Value} (h : W2 w a0 a1 a2 a3 a4 a5 b0 b1 b2 b3 b4 b5 W) (hp : w.heap.size + 2 ≤ p) (d0 d1 d2 d3 d4 d5 : Value) : W2 w a0 a1 a2 a3 a4 a5 b0 b1 b2 b3 b4 b5 (set6 W p d0 d1 d2 d3 d4 d5) :=
  ⟨set6_below _ _ _ _ _ _ h.below (by omega), by rw [set6_size]; exact h.size, h.a.st6 (by omega) _ _ _ _ _ _, h.b.st6 (by omega) _ _ _ _ _ _⟩
theorem WL.made {w W : World} {p q r s : Nat} {a0 a1 a2 a3 a4 a5 b0 b1 b2 b3 b4 b5 : Value} (h : W2 w a0 a1 a2 a3 a4 a5 b0 b1 b2 b3 b4 b5 W) (hp : w.heap.size + 2 ≤ p) (hq : w.heap.size + 2 ≤ q) (hr : w.heap.size + 2 ≤ r) (hs : w.heap.size + 2 ≤ s)
    (zp : Zst W p) (zq : Zst W q) (zr : Zst W r) (zs : Zst W s) (pq : p ≠ q) (pr : p ≠ r) (ps : p ≠ s) (qr : q ≠ r) (qs : q ≠ s) (rs : r ≠ s) :
    WL w p q r s a0 a1 a2 a3 a4 a5 b0 b1 b2 b3 b4 b5 (set6 (set6 (set6 (set6 W p (.int .i64 5) (.int .i64 0) (.float .f64 0) (.string ⟨#[]⟩) (.slice none 0 0) a5) q (.int .i64 5) (.int .i64 0) (.float .f64 0) (.string ⟨#[]⟩) (.slice none 0 0) b5)
      r (.int .i64 6) (.int .i64 0) (.float .f64 0) (.string ⟨#[]⟩) a4 a5) s (.int .i64 6) (.int .i64 0) (.float .f64 0) (.string ⟨#[]⟩) b4 b5) := by
  refine ⟨(((h.st6 hp _ _ _ _ _ _).st6 hq _ _ _ _ _ _).st6 hr _ _ _ _ _ _).st6 hs _ _ _ _ _ _, (((Zst.made zp _ _ _ _ _ _).st6 pq _ _ _ _ _ _).st6 pr _ _ _ _ _ _).st6 ps _ _ _ _ _ _,
    ((Zst.made (zq.st6 pq.symm _ _ _ _ _ _) _ _ _ _ _ _).st6 qr _ _ _ _ _ _).st6 qs _ _ _ _ _ _, (Zst.made ((zr.st6 pr.symm _ _ _ _ _ _).st6 qr.symm _ _ _ _ _ _) _ _ _ _ _ _).st6 rs _ _ _ _ _ _,
    Zst.made (((zs.st6 ps.symm _ _ _ _ _ _).st6 qs.symm _ _ _ _ _ _).st6 rs.symm _ _ _ _ _ _) _ _ _ _ _ _, ?_⟩
  have l1 := Bk.lt zp
  have l2 := Bk.lt zq
  have l3 := Bk.lt zr
  have l4 := Bk.lt zs
  simp only [set6_size]
  exact ⟨l1, l2, l3, l4⟩

end Go.Proofs.YtajeghkjppkhcaaGreat
