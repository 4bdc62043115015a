/-
  Paths in memory: the thin package's slices of steps, and the package's own; impl.toPath.
-/
import Derived.Test.YtajeghkjppkhcaaGreatPathP
import Derived.Test.YtajeghkjppkhcaaGreatToElem
set_option linter.unusedVariables false
set_option linter.unusedSimpArgs false
namespace Go.Proofs.YtajeghkjppkhcaaGreat
open Go.RowKit
attribute [local go_sem] run_store_float

/-- a path of the thin package -/
def PathAt (F : Nat → Prop) (w : World) (l : List REl) (A : Option Addr) (c : Nat) : Prop := l.length * 168 ≤ R47 ∧ l.length ≤ c ∧ c ≤ maxLen ∧ ∃ xs, Row F w 11 A l.length xs ∧ Cells 11 (ElemAt F w) l xs
/-- a path of the package -/
def PPathAt (F : Nat → Prop) (w : World) (p : List E) (A : Option Addr) (c : Nat) : Prop := p.length * 32 ≤ R47 ∧ p.length ≤ c ∧ c ≤ maxLen ∧ ∃ xs, Row F w 4 A p.length xs ∧ Cells 4 (PEAt F w) p xs
/-- paths of the thin package -/
def PathsAt (F : Nat → Prop) (w : World) (ls : List (List REl)) (A : Option Addr) (c : Nat) : Prop := ls.length * 24 ≤ R47 ∧ ls.length ≤ c ∧ c ≤ maxLen ∧ ∃ xs, Row F w 1 A ls.length xs ∧ Cells 1 (fun l cs => ∃ A c, cs = [.slice A l.length c] ∧ PathAt F w l A c) ls xs
/-- the path that a slice of steps stands for -/
def pel (l : List REl) : List E := l.map REl.elem
theorem pel_length (l : List REl) : (pel l).length = l.length := by simp [pel]
section
variable {F G : Nat → Prop} {w w' : World} {A : Option Addr} {c : Nat}
theorem PathAt.keeps {l : List REl} (h : PathAt F w l A c) (k : Keeps F w w') : PathAt F w' l A c := by
  obtain ⟨h1, h2, h3, xs, h4, h5⟩ := h
  exact ⟨h1, h2, h3, xs, h4.keeps k, h5.mono fun _ _ h => h.keeps k⟩
theorem PathAt.mono {l : List REl} (h : PathAt F w l A c) (k : ∀ b, F b → G b) : PathAt G w l A c := by
  obtain ⟨h1, h2, h3, xs, h4, h5⟩ := h
  exact ⟨h1, h2, h3, xs, h4.mono k, h5.mono fun _ _ h => h.mono k⟩
theorem PathAt.at_ {l : List REl} (h : PathAt (Old w) w l A c) (hb : Below w.heap.size w w') : PathAt (Old w') w' l A c := (h.keeps (Keeps.below hb fun _ h => h)).mono fun _ h => Nat.lt_of_lt_of_le h hb.size
theorem PPathAt.keeps {p : List E} (h : PPathAt F w p A c) (k : Keeps F w w') : PPathAt F w' p A c := by
  obtain ⟨h1, h2, h3, xs, h4, h5⟩ := h
  exact ⟨h1, h2, h3, xs, h4.keeps k, h5.mono fun _ _ h => h.keeps k⟩
theorem PPathAt.mono {p : List E} (h : PPathAt F w p A c) (k : ∀ b, F b → G b) : PPathAt G w p A c := by
  obtain ⟨h1, h2, h3, xs, h4, h5⟩ := h
  exact ⟨h1, h2, h3, xs, h4.mono k, h5.mono fun _ _ h => h.mono k⟩
theorem PPathAt.at_ {p : List E} (h : PPathAt (Old w) w p A c) (hb : Below w.heap.size w w') : PPathAt (Old w') w' p A c := (h.keeps (Keeps.below hb fun _ h => h)).mono fun _ h => Nat.lt_of_lt_of_le h hb.size
theorem PathsAt.keeps {ls : List (List REl)} (h : PathsAt F w ls A c) (k : Keeps F w w') : PathsAt F w' ls A c := by
  obtain ⟨h1, h2, h3, xs, h4, h5⟩ := h
  exact ⟨h1, h2, h3, xs, h4.keeps k, h5.mono fun _ _ ⟨A, c, e, h⟩ => ⟨A, c, e, h.keeps k⟩⟩
theorem PathsAt.mono {ls : List (List REl)} (h : PathsAt F w ls A c) (k : ∀ b, F b → G b) : PathsAt G w ls A c := by
  obtain ⟨h1, h2, h3, xs, h4, h5⟩ := h
  exact ⟨h1, h2, h3, xs, h4.mono k, h5.mono fun _ _ ⟨A, c, e, h⟩ => ⟨A, c, e, h.mono k⟩⟩
theorem PathsAt.at_ {ls : List (List REl)} (h : PathsAt (Old w) w ls A c) (hb : Below w.heap.size w w') : PathsAt (Old w') w' ls A c := (h.keeps (Keeps.below hb fun _ h => h)).mono fun _ h => Nat.lt_of_lt_of_le h hb.size
end

section
variable {F : Nat → Prop} {w : World}
theorem Row.of_bkp {g n size : Nat} {cs : List Value} {t : TypeId} (h : Bk w g t cs.toArray) (hl : cs.length = n * size) (hF : F g) : Row F w size (some ⟨g, 0, none⟩) n cs :=
  ⟨hl, fun _ => ⟨g, 0, rfl, hF, fun j u hu => by rw [Nat.zero_add, h.cell]; simpa using hu⟩⟩
end

/-- a struct appended to a row of structs -/
theorem cells_stepp {α : Type} {n m B : Nat} {e : TypeId} {Q : (Nat → Prop) → World → α → List Value → Prop} (qk : ∀ {F : Nat → Prop} {w w' : World} {a : α} {cs : List Value}, Q F w a cs → Keeps F w w' → Q F w' a cs) (qm : ∀ {F G : Nat → Prop} {w : World} {a : α} {cs : List Value}, Q F w a cs → (∀ b, F b → G b) → Q G w a cs)
    {wr w1 w2 : World} {L : List α} {a : α} {out out' : Value} {us cs : List Value} {o2 : Obj} (hown : wr.ownsRow B e n out m us) (hus : Cells n (Q (FrX B wr out) wr) L us) (hB : B ≤ wr.heap.size)
    (hv : Q (Fr wr.heap.size w1) w1 a cs) (hl : cs.length = n) (hb1 : Below wr.heap.size wr w1) (hg2 : (w1.alloc o2).grownBy w2 out.ownBlock) (hat : out'.ownBlock = out.ownBlock ∨ out'.ownBlock = some (w1.alloc o2).heap.size) :
    Cells n (Q (FrX B w2 out') w2) (L ++ [a]) (us ++ cs) ∧ B ≤ w2.heap.size := by
  have s1 := hb1.size
  have s2 := hg2.size
  simp only [World.size_alloc] at s2
  have hlt := hown.lt
  have k2 : Keeps (FrX B wr out) wr w2 := by
    rintro b ⟨q1, q2, q3⟩
    rw [hg2.block b (by simp only [World.size_alloc]; omega) q3, Below.heap_alloc _ _ _ (by omega), hb1.block b q2]
  have g2 : ∀ b, FrX B wr out b → FrX B w2 out' b := by
    rintro b ⟨q1, q2, q3⟩
    refine ⟨q1, by omega, ?_⟩
    rcases hat with e | e <;> rw [e]
    · exact q3
    · simp only [World.size_alloc, ne_eq, Option.some.injEq]; omega
  have k3 : Keeps (Fr wr.heap.size w1) w1 w2 := by
    rintro b ⟨q1, q2⟩
    rw [hg2.block b (by simp only [World.size_alloc]; omega) (fun e => by have := (hlt b e.symm).2; omega), Below.heap_alloc _ _ _ q2]
  have g3 : ∀ b, Fr wr.heap.size w1 b → FrX B w2 out' b := by
    rintro b ⟨q1, q2⟩
    refine ⟨by omega, by omega, ?_⟩
    rcases hat with e | e <;> rw [e]
    · intro e'; have := (hlt b e'.symm).2; omega
    · simp only [World.size_alloc, ne_eq, Option.some.injEq]; omega
  exact ⟨(hus.mono fun a cs h => qm (qk h k2) g2).append (Cells.one (qm (qk hv k3) g3) hl), by omega⟩


end Go.Proofs.YtajeghkjppkhcaaGreat
