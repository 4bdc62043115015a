/-
  Plain: paths, their order; sets of steps in order.
-/
import Derived.Test.YtajeghkjppkhcaaElemP
set_option linter.unusedVariables false
set_option linter.unusedSimpArgs false
namespace Go.Proofs.Ytajeghkjppkhcaa

/-- a lexical order; a beginning comes first -/
def pcmp : List E → List E → Int
  | [], [] => 0
  | [], _ :: _ => -1
  | _ :: _, [] => 1
  | a :: p, b :: q => if E.cmp a b = 0 then pcmp p q else E.cmp a b
def peqv : List E → List E → Bool
  | [], [] => true
  | a :: p, b :: q => E.eqv a b && peqv p q
  | _, _ => false
/-- all steps are orderly -/
def POk (p : List E) : Prop := ∀ e ∈ p, e.Ok

theorem pcmp_self : ∀ {p : List E}, POk p → pcmp p p = 0
  | [], _ => rfl
  | a :: p, h => by rw [pcmp, E.cmp_self (h a (by simp)), if_pos rfl]; exact pcmp_self fun e he => h e (by simp [he])
theorem peqv_iff : ∀ {p q : List E}, POk p → POk q → (peqv p q = true ↔ pcmp p q = 0)
  | [], [], _, _ => by simp [pcmp, peqv]
  | [], _ :: _, _, _ => by simp [pcmp, peqv]
  | _ :: _, [], _, _ => by simp [pcmp, peqv]
  | a :: p, b :: q, h1, h2 => by
    have e := E.eqv_iff (h1 a (by simp)) (h2 b (by simp))
    have e2 := peqv_iff (p := p) (q := q) (fun t ht => h1 t (by simp [ht])) (fun t ht => h2 t (by simp [ht]))
    rw [pcmp, peqv, Bool.and_eq_true, e, e2]
    by_cases h : E.cmp a b = 0
    · rw [if_pos h]; simp [h]
    · rw [if_neg h]; simp [h]
theorem pcmp_turn : ∀ {p q : List E}, POk p → POk q → pcmp q p = - pcmp p q
  | [], [], _, _ => by simp [pcmp]
  | [], _ :: _, _, _ => by simp [pcmp]
  | _ :: _, [], _, _ => by simp [pcmp]
  | a :: p, b :: q, h1, h2 => by
    have e := E.cmp_turn (h1 a (by simp)) (h2 b (by simp))
    have e2 := pcmp_turn (p := p) (q := q) (fun t ht => h1 t (by simp [ht])) (fun t ht => h2 t (by simp [ht]))
    rw [pcmp, pcmp, e, e2]
    by_cases h : E.cmp a b = 0
    · rw [if_pos (by omega), if_pos h]
    · rw [if_neg (by omega), if_neg h]
theorem pcmp_tr : ∀ {x y z : List E}, POk x → POk y → POk z → Tr (pcmp x y) (pcmp y z) (pcmp x z)
  | [], [], [], _, _, _ => by simp [pcmp, Tr]
  | [], [], _ :: _, _, _, _ => by simp [pcmp, Tr]
  | [], _ :: _, [], _, _, _ => by simp [pcmp, Tr]
  | [], _ :: _, _ :: _, _, _, _ => by simp [pcmp, Tr]
  | _ :: _, [], [], _, _, _ => by simp [pcmp, Tr]
  | _ :: _, [], _ :: _, _, _, _ => by simp [pcmp, Tr]
  | _ :: _, _ :: _, [], _, _, _ => by simp [pcmp, Tr]
  | a :: x, b :: y, c :: z, h1, h2, h3 => by
    rw [pcmp, pcmp, pcmp]
    have e := pcmp_tr (x := x) (y := y) (z := z) (fun t ht => h1 t (by simp [ht])) (fun t ht => h2 t (by simp [ht])) (fun t ht => h3 t (by simp [ht]))
    exact Tr.lex (E.cmp_tr (h1 a (by simp)) (h2 b (by simp)) (h3 c (by simp))) fun _ _ => e

/-! total orders on orderly things -/
structure TOrd {α : Type} (c : α → α → Int) (Ok : α → Prop) : Prop where
  self : ∀ {a : α}, Ok a → c a a = 0
  turn : ∀ {a b : α}, Ok a → Ok b → c b a = - c a b
  tr : ∀ {a b d : α}, Ok a → Ok b → Ok d → Tr (c a b) (c b d) (c a d)
section
variable {α : Type} {c : α → α → Int} {Ok : α → Prop} (O : TOrd c Ok)

/-- one that equals e is in the list -/
def HasC (c : α → α → Int) (l : List α) (e : α) : Prop := ∃ a ∈ l, c a e = 0
/-- pair by pair equal -/
def Alike (c : α → α → Int) : List α → List α → Prop
  | [], [] => True
  | a :: l, b :: m => c a b = 0 ∧ Alike c l m
  | _, _ => False

theorem HasC_cons {a : α} {l : List α} {x : α} : HasC c (a :: l) x ↔ c a x = 0 ∨ HasC c l x := by simp [HasC]
include O
theorem TOrd.lt_trans {a b d : α} (ha : Ok a) (hb : Ok b) (hd : Ok d) (h1 : c a b < 0) (h2 : c b d < 0) : c a d < 0 := (O.tr ha hb hd).2 (by omega) (by omega) (.inl h1)
theorem TOrd.eq_trans {a b d : α} (ha : Ok a) (hb : Ok b) (hd : Ok d) (h1 : c a b = 0) (h2 : c b d = 0) : c a d = 0 := (O.tr ha hb hd).1 h1 h2
theorem TOrd.eq_turn {a b : α} (ha : Ok a) (hb : Ok b) (h : c a b = 0) : c b a = 0 := by rw [O.turn ha hb]; omega
theorem TOrd.gt {a b : α} (ha : Ok a) (hb : Ok b) (h1 : ¬ c a b < 0) (h2 : ¬ c a b = 0) : c b a < 0 := by rw [O.turn ha hb]; omega
theorem HasC.congr {l : List α} {e e' : α} (hl : ∀ x ∈ l, Ok x) (he : Ok e) (he' : Ok e') (h : c e e' = 0) : HasC c l e ↔ HasC c l e' := by
  constructor
  · rintro ⟨a, h1, h2⟩; exact ⟨a, h1, O.eq_trans (hl a h1) he he' h2 h⟩
  · rintro ⟨a, h1, h2⟩; exact ⟨a, h1, O.eq_trans (hl a h1) he' he h2 (O.eq_turn he he' h)⟩
theorem Alike.refl {l : List α} (hl : ∀ x ∈ l, Ok x) : Alike c l l := by
  induction l with
  | nil => trivial
  | cons a l ih => exact ⟨O.self (hl a (by simp)), ih fun x hx => hl x (by simp [hx])⟩
theorem Alike.has {l m : List α} (hl : ∀ x ∈ l, Ok x) (hm : ∀ x ∈ m, Ok x) (h : Alike c l m) {x : α} (hx : Ok x) : HasC c l x ↔ HasC c m x := by
  induction l generalizing m with
  | nil => cases m with | nil => rfl | cons b m => exact h.elim
  | cons a l ih =>
    cases m with
    | nil => exact h.elim
    | cons b m =>
      rw [HasC_cons, HasC_cons, ih (fun y hy => hl y (by simp [hy])) (fun y hy => hm y (by simp [hy])) h.2]
      have ha := hl a (by simp)
      have hb := hm b (by simp)
      have e : c a x = 0 ↔ c b x = 0 := ⟨fun e => O.eq_trans hb ha hx (O.eq_turn ha hb h.1) e, fun e => O.eq_trans ha hb hx h.1 e⟩
      rw [e]
omit O in
theorem Alike.length {l m : List α} (h : Alike c l m) : l.length = m.length := by
  induction l generalizing m with
  | nil => cases m with | nil => rfl | cons b m => exact h.elim
  | cons a l ih => cases m with | nil => exact h.elim | cons b m => simp [ih h.2]
end

end Go.Proofs.Ytajeghkjppkhcaa
