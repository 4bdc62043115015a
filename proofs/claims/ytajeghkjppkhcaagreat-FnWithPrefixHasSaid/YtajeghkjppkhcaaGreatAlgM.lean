/-
  Several texts in one: AlgP, MgM.
-/
import Derived.Test.YtajeghkjppkhcaaGreatSetP
import Derived.Test.YtajeghkjppkhcaaGreatWpA
import Derived.Deep.Slices
set_option linter.unusedVariables false
set_option linter.unusedSimpArgs false
/-!
  Plain: what is in either of two sets, in both, in the first alone: rows merged, sets merged.
-/

namespace Go.Proofs.YtajeghkjppkhcaaGreat

section
variable {α : Type} {c : α → α → Int} {Ok : α → Prop} (O : TOrd c Ok)

include O
end

section
variable {α : Type} {c : α → α → Int} {Ok : α → Prop} (O : TOrd c Ok)
include O
end

/-! sets -/
/-- no path is in the set, as the package asks -/
def St.emp : St → Bool
  | .mk m ks => m.isEmpty && empK ks
where empK : List (E × St) → Bool
  | [] => true
  | (_, s) :: r => s.emp && empK r
/-- an operation on two sets: kl, kr: what only the first, the second has is kept; kb: what both have is kept; sec: the second's element stands for both; ke: sets without a path are kept below a step -/
structure SOp where
  kl : Bool
  kr : Bool
  kb : Bool
  sec : Bool
  ke : Bool
def SOp.less : SOp := ⟨true, false, false, false, false⟩
/-- of what goes on with two equal steps -/
def SOp.kid (o : SOp) (u : St → St → St) (a b : E × St) : Option (E × St) := if o.ke = false ∧ (u a.2 b.2).emp = true then none else some (a.1, u a.2 b.2)
/-- what the operation keeps -/
def SOp.says (o : SOp) (p q : Prop) : Prop := (p ∧ ¬ q ∧ o.kl = true) ∨ (¬ p ∧ q ∧ o.kr = true) ∨ (p ∧ q ∧ o.kb = true)
end Go.Proofs.YtajeghkjppkhcaaGreat

/-!
  A merged row while it is built: behind a box of one cell; what it holds lies elsewhere.
-/

namespace Go.Proofs.YtajeghkjppkhcaaGreat
open Go.RowKit
attribute [local go_sem] run_store_float

/-- what is kept in a region's head may grow on the way -/
theorem wpHead_change {P : Program} {ops : Array Oper} {Q : Exit → Act → World → Prop} {md : Region.Mode} {S S2 : World → Prop} {n : Nat} {L : Array Bool → Act → World → Prop} (h12 : ∀ w, S2 w → S w) :
    ∀ (f : Nat) (listed : Array Bool) (a : Act) (w : World), wpHead P md ops Q S2 n L f listed a w → wpHead P md ops Q S n L f listed a w
  | 0, _, _, _, h => h
  | f + 1, listed, a, w, h => ⟨h.1, fun i hi => ⟨(h.2 i hi).1, wpOp_mono (fun a' w' h' => ⟨h12 _ h'.1, wpHead_change h12 f _ a' w' h'.2⟩) (h.2 i hi).2⟩⟩
theorem HT.change {P : Program} {l : List Oper} {Q : Exit → Act → World → Prop} {S S2 : World → Prop} {n f : Nat} {listed : Array Bool} {a : Act} {w : World} (h12 : ∀ w, S2 w → S w) (h : HT P l Q S2 n f listed a w) : HT P l Q S n f listed a w :=
  fun inv => wpHead_change h12 f listed a w (h inv)

/-- a row from its m-th item on -/
theorem Row.drop_at {F : Nat → Prop} {w : World} {size n m rb ro : Nat} {xs : List Value} (h : Row F w size (some ⟨rb, ro, none⟩) n xs) (hm : m ≤ n) : Row F w size (some ⟨rb, ro + m * size, none⟩) (n - m) (xs.drop (m * size)) := by
  refine ⟨by rw [List.length_drop, h.1, Nat.sub_mul], fun hn => ?_⟩
  obtain ⟨b, o, e, hF, hcell⟩ := h.2 (by omega)
  simp only [Option.some.injEq, Addr.mk.injEq, and_true] at e
  obtain ⟨rfl, rfl⟩ := e
  refine ⟨rb, ro + m * size, rfl, hF, fun j u hu => ?_⟩
  rw [List.getElem?_drop] at hu
  rw [Nat.add_assoc]
  exact hcell _ u hu

/-- what stood (F), or was made behind the box (block w.heap.size), but for the row's own block -/
def Apart (F : Nat → Prop) (w : World) (s : Value) (W : World) (b : Nat) : Prop := (F b ∨ w.heap.size < b) ∧ b < W.heap.size ∧ some b ≠ s.ownBlock

/-- the row that is built: boxed in block w.heap.size, type ty; k cells each, row type e -/
structure Mg {α : Type} (k : Nat) (ty e : TypeId) (Q : (Nat → Prop) → World → α → List Value → Prop) (F : Nat → Prop) (w : World) (ls : List α) (s : Value) (W : World) (us : List Value) : Prop where
  bk : Bk W w.heap.size ty #[s]
  own : W.ownsRow (w.heap.size + 1) e k s ls.length us
  cells : Cells k (Q (Apart F w s W) W) ls us
  below : Below w.heap.size w W

section
variable {α : Type} {k : Nat} {ty e : TypeId} {Q : (Nat → Prop) → World → α → List Value → Prop} {F : Nat → Prop} {w W V W3 : World} {ls add : List α} {s s' : Value} {us news : List Value}

theorem Mg.start (h : Below w.heap.size w W) (hb : Bk W w.heap.size ty #[.slice none 0 0]) : Mg k ty e Q F w ([] : List α) (.slice none 0 0) W [] :=
  ⟨hb, World.ownsRow_nil _ _ _ _, Cells.nil_, h⟩

theorem Apart.below (hb : Below W.heap.size W V) {s : Value} {b : Nat} (h : Apart F w s W b) : Apart F w s V b := ⟨h.1, Nat.lt_of_lt_of_le h.2.1 hb.size, h.2.2⟩

/-- memory is made meanwhile -/
theorem Mg.at_ (qk : ∀ {F : Nat → Prop} {w w' : World} {a : α} {cs : List Value}, Q F w a cs → Keeps F w w' → Q F w' a cs) (qm : ∀ {F G : Nat → Prop} {w : World} {a : α} {cs : List Value}, Q F w a cs → (∀ b, F b → G b) → Q G w a cs)
    (h : Mg k ty e Q F w ls s W us) (hb : Below W.heap.size W V) : Mg k ty e Q F w ls s V us := by
  refine ⟨h.bk.below hb h.bk.lt, ownsRow_below h.own hb (Nat.le_refl _), h.cells.mono fun a cs q => qm (qk q (Keeps.below hb fun b hb => hb.2.1)) fun b hb' => hb'.below hb, ?_⟩
  exact h.below.trans (hb.mono h.below.size)

/-- a row appended -/
theorem Mg.step (hF : ∀ b, F b → b < w.heap.size) (qk : ∀ {F : Nat → Prop} {w w' : World} {a : α} {cs : List Value}, Q F w a cs → Keeps F w w' → Q F w' a cs) (qm : ∀ {F G : Nat → Prop} {w : World} {a : α} {cs : List Value}, Q F w a cs → (∀ b, F b → G b) → Q G w a cs)
    (h : Mg k ty e Q F w ls s V us) (hown : W3.ownsRow (w.heap.size + 1) e k s' (ls.length + add.length) (us ++ news)) (hg : V.grownBy W3 s.ownBlock) (hat : s'.ownBlock = s.ownBlock ∨ s'.ownBlock = some V.heap.size)
    (hadd : Cells k (Q (Apart F w s V) V) add news) : Mg k ty e Q F w (ls ++ add) s' (W3.setCell ⟨w.heap.size, 0, none⟩ s') (us ++ news) := by
  have hlo := h.own.lt
  have hol := h.bk.lt
  have hkF : Keeps (Apart F w s V) V (W3.setCell ⟨w.heap.size, 0, none⟩ s') := fun b hb => by
    have hne : b ≠ w.heap.size := by
      rcases hb.1 with h1 | h1
      · have := hF b h1; omega
      · omega
    rw [Below.heap_setCell _ _ _ _ (by show b ≠ w.heap.size; exact hne), hg.block b hb.2.1 hb.2.2]
  have hsz : (W3.setCell ⟨w.heap.size, 0, none⟩ s').heap.size = W3.heap.size := (setCell_same _ _ _).2.2.2
  have hsz3 : V.heap.size ≤ W3.heap.size := hg.size
  have hap : ∀ b, Apart F w s V b → Apart F w s' (W3.setCell ⟨w.heap.size, 0, none⟩ s') b := fun b hb => by
    refine ⟨hb.1, by rw [hsz]; exact Nat.lt_of_lt_of_le hb.2.1 hsz3, fun e => ?_⟩
    rcases hat with e' | e'
    · exact hb.2.2 (by rw [← e']; exact e)
    · rw [e'] at e; have e3 : b = V.heap.size := Option.some.inj e; have := hb.2.1; omega
  have hbk := (h.bk.grown hg (fun e => by have := (hlo _ e.symm).1; omega)).set_ 0 s'
  refine ⟨by simpa using hbk, ?_, ?_, ?_⟩
  · rw [List.length_append]
    exact ownsRow_setCell_below hown (show w.heap.size < w.heap.size + 1 by omega) _
  · exact Cells.append (h.cells.mono fun a cs q => qm (qk q hkF) hap) (hadd.mono fun a cs q => qm (qk q hkF) hap)
  · refine (h.below.grown hg (by have := h.below.size; omega) fun b e => by have := (hlo b e).1; omega).setCell (Nat.le_refl _) _

/-- what is old lies apart -/
theorem Apart.old (hF : ∀ b, F b → b < w.heap.size) (h : Mg k ty e Q F w ls s V us) : ∀ b, F b → Apart F w s V b := fun b hb => by
  have h1 := h.below.size
  have h2 := hF b hb
  exact ⟨.inl hb, by omega, fun e => by have := (h.own.lt b e.symm).1; omega⟩
/-- what was made since lies apart -/
theorem Apart.new (h : Mg k ty e Q F w ls s V us) (hb : Below V.heap.size V W) : ∀ b, (F b ∨ Fr V.heap.size W b) → (∀ b, F b → b < w.heap.size) → Apart F w s W b := fun b hb' hF => by
  have h1 := h.below.size
  have h3 := h.bk.lt
  have h4 := hb.size
  rcases hb' with h2 | h2
  · have h5 := hF b h2
    exact ⟨.inl h2, by omega, fun e => by have := (h.own.lt b e.symm).1; omega⟩
  · have h5 := h2.1
    exact ⟨.inr (by omega), h2.2, fun e => by have := (h.own.lt b e.symm).2; omega⟩
/-- the row, to be read -/
theorem Mg.row {sA : Option Addr} {sc : Nat} (h : Mg k ty e Q F w ls (.slice sA ls.length sc) W us) : Row (fun b => F b ∨ Fr w.heap.size W b) W k sA ls.length us :=
  Row.of_own h.own fun b hb => .inr ⟨by have := (h.own.lt b hb).1; omega, (h.own.lt b hb).2⟩
end

/-- a step and the set behind it -/
def KQ (F : Nat → Prop) (w : World) (k : E × St) (cs : List Value) : Prop := ∃ g, KidAt F w k.1 g cs ∧ SetR F w g k.2
theorem KQ.keeps {F : Nat → Prop} {w w' : World} {k : E × St} {cs : List Value} (h : KQ F w k cs) (hk : Keeps F w w') : KQ F w' k cs := by
  obtain ⟨g, h1, h2⟩ := h
  exact ⟨g, h1.keeps hk, h2.keeps hk⟩
theorem KQ.mono {F G : Nat → Prop} {w : World} {k : E × St} {cs : List Value} (h : KQ F w k cs) (hk : ∀ b, F b → G b) : KQ G w k cs := by
  obtain ⟨g, h1, h2⟩ := h
  exact ⟨g, h1.mono hk, h2.mono hk⟩
theorem KQ.form {F : Nat → Prop} {w : World} {k : E × St} {cs : List Value} (h : KQ F w k cs) : ∃ (a b c d : Option Addr) (g : Nat), cs = [.pointer a, .pointer b, .pointer c, .pointer d, .pointer (some ⟨g, 0, none⟩)] ∧ PEAt F w k.1 [.pointer a, .pointer b, .pointer c, .pointer d] ∧ SetR F w g k.2 := by
  obtain ⟨g, ⟨p0, p1, p2, p3, rfl, h1⟩, h2⟩ := h
  obtain ⟨a, b, c, d, e⟩ := h1.form
  simp only [List.cons.injEq, and_true] at e
  obtain ⟨rfl, rfl, rfl, rfl⟩ := e
  exact ⟨a, b, c, d, g, rfl, h1, h2⟩
/-- a set taken apart -/
theorem SetR.parts {F : Nat → Prop} {w : World} {g : Nat} {s : St} (h : SetR F w g s) : ∃ (MA KA : Option Addr) (mc kc : Nat) (xs ys : List Value),
    F g ∧ Bk w g 122 #[.slice MA s.mem.length mc, .slice KA s.kids.length kc] ∧ s.mem.length * 32 ≤ R47 ∧ s.kids.length * 40 ≤ R47 ∧ s.mem.length ≤ mc ∧ mc ≤ maxLen ∧ s.kids.length ≤ kc ∧ kc ≤ maxLen ∧
    Row F w 4 MA s.mem.length xs ∧ Row F w 5 KA s.kids.length ys ∧ Cells 4 (PEAt F w) s.mem xs ∧ Cells 5 (KQ F w) s.kids ys := by
  cases h with
  | @mk _ m ks MA KA mc kc xs ys G h1 h2 h3 h4 h5 h6 h7 h8 h9 h10 h11 h12 h13 =>
    exact ⟨MA, KA, mc, kc, xs, ys, h1, h2, h3, h4, h5, h6, h7, h8, h9, h10, h11, h10.1, fun i k hk => ⟨G i, h12 i k hk, h13 i k hk⟩⟩
def MES (o g rb ro : Nat) (u v c0 c1 c2 c3 : Value) (W : World) : Prop := W.cell? ⟨o, 0, none⟩ = some u ∧ W.cell? ⟨g, 0, none⟩ = some v ∧ W.cell? ⟨rb, ro, none⟩ = some c0 ∧ W.cell? ⟨rb, ro + 1, none⟩ = some c1 ∧ W.cell? ⟨rb, ro + 2, none⟩ = some c2 ∧ W.cell? ⟨rb, ro + 3, none⟩ = some c3
theorem MES.to {o g rb ro : Nat} {u v c0 c1 c2 c3 : Value} {W W' : World} (h : MES o g rb ro u v c0 c1 c2 c3 W) (ho : ∀ k, W'.cell? ⟨o, k, none⟩ = W.cell? ⟨o, k, none⟩) (hg : ∀ k, W'.cell? ⟨g, k, none⟩ = W.cell? ⟨g, k, none⟩) (hr : ∀ k, W'.cell? ⟨rb, k, none⟩ = W.cell? ⟨rb, k, none⟩) : MES o g rb ro u v c0 c1 c2 c3 W' :=
  ⟨(ho _).trans h.1, (hg _).trans h.2.1, (hr _).trans h.2.2.1, (hr _).trans h.2.2.2.1, (hr _).trans h.2.2.2.2.1, (hr _).trans h.2.2.2.2.2⟩

/-- the cells that a round reads -/
def MKS (o g g' rb ro sb so : Nat) (u v v' c0 c1 c2 c3 c4 d0 d1 d2 d3 d4 : Value) (W : World) : Prop := (W.cell? ⟨o, 0, none⟩ = some u ∧ W.cell? ⟨g, 1, none⟩ = some v ∧ W.cell? ⟨g', 1, none⟩ = some v') ∧
  (W.cell? ⟨rb, ro, none⟩ = some c0 ∧ W.cell? ⟨rb, ro + 1, none⟩ = some c1 ∧ W.cell? ⟨rb, ro + 2, none⟩ = some c2 ∧ W.cell? ⟨rb, ro + 3, none⟩ = some c3 ∧ W.cell? ⟨rb, ro + 4, none⟩ = some c4) ∧
  (W.cell? ⟨sb, so, none⟩ = some d0 ∧ W.cell? ⟨sb, so + 1, none⟩ = some d1 ∧ W.cell? ⟨sb, so + 2, none⟩ = some d2 ∧ W.cell? ⟨sb, so + 3, none⟩ = some d3 ∧ W.cell? ⟨sb, so + 4, none⟩ = some d4)
theorem MKS.to {o g g' rb ro sb so : Nat} {u v v' c0 c1 c2 c3 c4 d0 d1 d2 d3 d4 : Value} {W W' : World} (h : MKS o g g' rb ro sb so u v v' c0 c1 c2 c3 c4 d0 d1 d2 d3 d4 W) (hlt : g < o ∧ g' < o ∧ rb < o ∧ sb < o) (hc : ∀ b k, b ≤ o → W'.cell? ⟨b, k, none⟩ = W.cell? ⟨b, k, none⟩) : MKS o g g' rb ro sb so u v v' c0 c1 c2 c3 c4 d0 d1 d2 d3 d4 W' := by
  obtain ⟨⟨a1, a2, a3⟩, ⟨b1, b2, b3, b4, b5⟩, e1, e2, e3, e4, e5⟩ := h
  obtain ⟨h1, h2, h3, h4⟩ := hlt
  exact ⟨⟨(hc _ _ (Nat.le_refl _)).trans a1, (hc _ _ (by omega)).trans a2, (hc _ _ (by omega)).trans a3⟩, ⟨(hc _ _ (by omega)).trans b1, (hc _ _ (by omega)).trans b2, (hc _ _ (by omega)).trans b3, (hc _ _ (by omega)).trans b4, (hc _ _ (by omega)).trans b5⟩,
    (hc _ _ (by omega)).trans e1, (hc _ _ (by omega)).trans e2, (hc _ _ (by omega)).trans e3, (hc _ _ (by omega)).trans e4, (hc _ _ (by omega)).trans e5⟩

end Go.Proofs.YtajeghkjppkhcaaGreat
