/-
  Plain: paths, their order; sets of steps in order.
-/
import Derived.Test.YtajeghkjppkhcaaGreatElemP
set_option linter.unusedVariables false
set_option linter.unusedSimpArgs false
namespace Go.Proofs.YtajeghkjppkhcaaGreat

/-- a lexical order; a beginning comes first -/
def pcmp : List E → List E → Int
  | [], [] => 0
  | [], _ :: _ => -1
  | _ :: _, [] => 1
  | a :: p, b :: q => if E.cmp a b = 0 then pcmp p q else E.cmp a b
def peqv : List E → List E → Bool
  | [], [] => true
  | a :: p, b :: q => E.eqv a b && peqv p q
  | _, _ => false
/-- all steps are orderly -/
def POk (p : List E) : Prop := ∀ e ∈ p, e.Ok

theorem pcmp_self : ∀ {p : List E}, POk p → pcmp p p = 0
  | [], _ => rfl
  | a :: p, h => by rw [pcmp, E.cmp_self (h a (by simp)), if_pos rfl]; exact pcmp_self fun e he => h e (by simp [he])
theorem peqv_iff : ∀ {p q : List E}, POk p → POk q → (peqv p q = true ↔ pcmp p q = 0)
  | [], [], _, _ => by simp [pcmp, peqv]
  | [], _ :: _, _, _ => by simp [pcmp, peqv]
  | _ :: _, [], _, _ => by simp [pcmp, peqv]
  | a :: p, b :: q, h1, h2 => by
    have e := E.eqv_iff (h1 a (by simp)) (h2 b (by simp))
    have e2 := peqv_iff (p := p) (q := q) (fun t ht => h1 t (by simp [ht])) (fun t ht => h2 t (by simp [ht]))
    rw [pcmp, peqv, Bool.and_eq_true, e, e2]
    by_cases h : E.cmp a b = 0
    · rw [if_pos h]; simp [h]
    · rw [if_neg h]; simp [h]
/-! total orders on orderly things -/
structure TOrd {α : Type} (c : α → α → Int) (Ok : α → Prop) : Prop where
  self : ∀ {a : α}, Ok a → c a a = 0
  turn : ∀ {a b : α}, Ok a → Ok b → c b a = - c a b
  tr : ∀ {a b d : α}, Ok a → Ok b → Ok d → Tr (c a b) (c b d) (c a d)
theorem E.ord_ : TOrd E.cmp E.Ok := ⟨fun h => E.cmp_self h, fun h k => E.cmp_turn h k, fun h k l => E.cmp_tr h k l⟩
section
variable {α : Type} {c : α → α → Int} {Ok : α → Prop} (O : TOrd c Ok)

/-- in increasing order, each once -/
def SortC (c : α → α → Int) (l : List α) : Prop := l.Pairwise fun a b => c a b < 0
/-- laid into a list in order; of equal ones the first one stays -/
def insC (c : α → α → Int) (e : α) : List α → List α
  | [] => [e]
  | a :: l => if c a e < 0 then a :: insC c e l else if c a e = 0 then a :: l else e :: a :: l
/-- how many come before e -/
def cntC (c : α → α → Int) (e : α) : List α → Nat
  | [] => 0
  | a :: l => if c a e < 0 then cntC c e l + 1 else 0
/-- one that equals e is in the list -/
def HasC (c : α → α → Int) (l : List α) (e : α) : Prop := ∃ a ∈ l, c a e = 0
/-- one that equals e stands at the place where it would be laid -/
def hasC (c : α → α → Int) (e : α) (l : List α) : Bool := match l[cntC c e l]? with
  | some a => decide (c a e = 0)
  | none => false
/-- pair by pair equal -/
def Alike (c : α → α → Int) : List α → List α → Prop
  | [], [] => True
  | a :: l, b :: m => c a b = 0 ∧ Alike c l m
  | _, _ => False

theorem cntC_le (e : α) (l : List α) : cntC c e l ≤ l.length := by
  induction l with
  | nil => simp [cntC]
  | cons a l ih => simp only [cntC, List.length_cons]; split <;> omega
theorem insC_eq (e : α) (l : List α) : insC c e l = if hasC c e l = true then l else l.take (cntC c e l) ++ e :: l.drop (cntC c e l) := by
  induction l with
  | nil => simp [insC, hasC, cntC]
  | cons a l ih =>
    simp only [insC, cntC, hasC]
    by_cases h : c a e < 0
    · simp only [h, if_true, List.getElem?_cons_succ, List.take_succ_cons, List.drop_succ_cons, List.cons_append]
      rw [ih]
      unfold hasC
      split <;> split <;> simp_all
    · by_cases h2 : c a e = 0
      · simp [h, h2]
      · simp [h, h2]
theorem mem_insC {e x : α} {l : List α} (h : x ∈ insC c e l) : x = e ∨ x ∈ l := by
  induction l with
  | nil => simp [insC] at h; exact .inl h
  | cons a l ih =>
    simp only [insC] at h
    split at h
    · rcases List.mem_cons.1 h with h | h
      · exact .inr (by simp [h])
      · rcases ih h with h | h
        · exact .inl h
        · exact .inr (by simp [h])
    · split at h
      · exact .inr h
      · rcases List.mem_cons.1 h with h | h
        · exact .inl h
        · exact .inr h
theorem insC_ok {e : α} {l : List α} (he : Ok e) (hl : ∀ x ∈ l, Ok x) : ∀ x ∈ insC c e l, Ok x := fun x hx => by
  rcases mem_insC hx with rfl | h
  · exact he
  · exact hl x h
theorem insC_length (e : α) (l : List α) : (insC c e l).length ≤ l.length + 1 := by
  rw [insC_eq]
  split
  · omega
  · have := cntC_le (c := c) e l
    simp
    omega
/-- the place is what a search finds -/
theorem cntC_of {e : α} {l : List α} {n : Nat} (hn : n ≤ l.length) (h1 : ∀ (i : Nat) a, i < n → l[i]? = some a → c a e < 0) (h2 : ∀ a, l[n]? = some a → ¬ c a e < 0) : cntC c e l = n := by
  induction l generalizing n with
  | nil => simp at hn; simp [cntC, hn]
  | cons x l ih =>
    cases n with
    | zero =>
      have := h2 x rfl
      simp only [cntC]
      rw [if_neg this]
    | succ n =>
      have := h1 0 x (by omega) rfl
      simp only [cntC]
      rw [if_pos this, ih (by simpa using hn) (fun i a hi ha => h1 (i + 1) a (by omega) (by simpa using ha)) (fun a ha => h2 a (by simpa using ha))]

theorem HasC_cons {a : α} {l : List α} {x : α} : HasC c (a :: l) x ↔ c a x = 0 ∨ HasC c l x := by simp [HasC]
include O
theorem TOrd.lt_trans {a b d : α} (ha : Ok a) (hb : Ok b) (hd : Ok d) (h1 : c a b < 0) (h2 : c b d < 0) : c a d < 0 := (O.tr ha hb hd).2 (by omega) (by omega) (.inl h1)
theorem TOrd.lt_le {a b d : α} (ha : Ok a) (hb : Ok b) (hd : Ok d) (h1 : c a b < 0) (h2 : c b d ≤ 0) : c a d < 0 := (O.tr ha hb hd).2 (by omega) (by omega) (.inl h1)
theorem TOrd.eq_trans {a b d : α} (ha : Ok a) (hb : Ok b) (hd : Ok d) (h1 : c a b = 0) (h2 : c b d = 0) : c a d = 0 := (O.tr ha hb hd).1 h1 h2
theorem TOrd.eq_turn {a b : α} (ha : Ok a) (hb : Ok b) (h : c a b = 0) : c b a = 0 := by rw [O.turn ha hb]; omega
theorem TOrd.gt {a b : α} (ha : Ok a) (hb : Ok b) (h1 : ¬ c a b < 0) (h2 : ¬ c a b = 0) : c b a < 0 := by rw [O.turn ha hb]; omega
theorem insC_sorted {e : α} {l : List α} (he : Ok e) (hl : ∀ x ∈ l, Ok x) (hs : SortC c l) : SortC c (insC c e l) := by
  induction l with
  | nil => simp [insC, SortC]
  | cons a l ih =>
    obtain ⟨h1, h2⟩ := List.pairwise_cons.1 hs
    have ha := hl a (by simp)
    have hl' : ∀ x ∈ l, Ok x := fun x hx => hl x (by simp [hx])
    simp only [insC]
    split
    · rename_i h
      refine List.pairwise_cons.2 ⟨fun x hx => ?_, ih hl' h2⟩
      rcases mem_insC hx with rfl | hx
      · exact h
      · exact h1 x hx
    · rename_i h
      split
      · exact hs
      · rename_i h3
        have hlt := O.gt ha he h h3
        refine List.pairwise_cons.2 ⟨fun x hx => ?_, hs⟩
        rcases List.mem_cons.1 hx with rfl | hx
        · exact hlt
        · exact O.lt_trans he ha (hl' x hx) hlt (h1 x hx)
/-- in order: what stands before the place is less, and nothing behind it is -/
theorem cntC_lt {e : α} {l : List α} (he : Ok e) (hl : ∀ x ∈ l, Ok x) (hs : SortC c l) : ∀ (i : Nat) a, l[i]? = some a → (c a e < 0 ↔ i < cntC c e l) := by
  induction l with
  | nil => intro i a h; simp at h
  | cons x l ih =>
    obtain ⟨h1, h2⟩ := List.pairwise_cons.1 hs
    have hx := hl x (by simp)
    have hl' : ∀ y ∈ l, Ok y := fun y hy => hl y (by simp [hy])
    intro i a ha
    simp only [cntC]
    cases i with
    | zero =>
      simp at ha
      subst ha
      split <;> rename_i hp <;> simp [hp]
    | succ i =>
      simp only [List.getElem?_cons_succ] at ha
      split
      · rename_i hp
        rw [ih hl' h2 i a ha]
        omega
      · rename_i hp
        have hmem := List.mem_of_getElem? ha
        constructor
        · intro hk
          exact absurd (O.lt_trans hx (hl' a hmem) he (h1 a hmem) hk) hp
        · intro h; omega
theorem hasC_iff {e : α} {l : List α} (he : Ok e) (hl : ∀ x ∈ l, Ok x) (hs : SortC c l) : hasC c e l = true ↔ HasC c l e := by
  unfold HasC
  induction l with
  | nil => simp [hasC]
  | cons x l ih =>
    obtain ⟨h1, h2⟩ := List.pairwise_cons.1 hs
    have hx := hl x (by simp)
    have hl' : ∀ y ∈ l, Ok y := fun y hy => hl y (by simp [hy])
    have ih := ih hl' h2
    unfold hasC at ih ⊢
    simp only [cntC]
    by_cases hp : c x e < 0
    · rw [if_pos hp]
      simp only [List.getElem?_cons_succ]
      rw [ih]
      constructor
      · rintro ⟨a, h3, h4⟩; exact ⟨a, by simp [h3], h4⟩
      · rintro ⟨a, h3, h4⟩
        rcases List.mem_cons.1 h3 with rfl | h3
        · omega
        · exact ⟨a, h3, h4⟩
    · rw [if_neg hp]
      simp only [List.getElem?_cons_zero, decide_eq_true_eq]
      constructor
      · intro h; exact ⟨x, by simp, h⟩
      · rintro ⟨a, h3, h4⟩
        rcases List.mem_cons.1 h3 with rfl | h3
        · exact h4
        · have := O.lt_le hx (hl' a h3) he (h1 a h3) (by omega)
          omega
theorem HasC.congr {l : List α} {e e' : α} (hl : ∀ x ∈ l, Ok x) (he : Ok e) (he' : Ok e') (h : c e e' = 0) : HasC c l e ↔ HasC c l e' := by
  constructor
  · rintro ⟨a, h1, h2⟩; exact ⟨a, h1, O.eq_trans (hl a h1) he he' h2 h⟩
  · rintro ⟨a, h1, h2⟩; exact ⟨a, h1, O.eq_trans (hl a h1) he' he h2 (O.eq_turn he he' h)⟩
theorem Alike.refl {l : List α} (hl : ∀ x ∈ l, Ok x) : Alike c l l := by
  induction l with
  | nil => trivial
  | cons a l ih => exact ⟨O.self (hl a (by simp)), ih fun x hx => hl x (by simp [hx])⟩
theorem Alike.has {l m : List α} (hl : ∀ x ∈ l, Ok x) (hm : ∀ x ∈ m, Ok x) (h : Alike c l m) {x : α} (hx : Ok x) : HasC c l x ↔ HasC c m x := by
  induction l generalizing m with
  | nil => cases m with | nil => rfl | cons b m => exact h.elim
  | cons a l ih =>
    cases m with
    | nil => exact h.elim
    | cons b m =>
      rw [HasC_cons, HasC_cons, ih (fun y hy => hl y (by simp [hy])) (fun y hy => hm y (by simp [hy])) h.2]
      have ha := hl a (by simp)
      have hb := hm b (by simp)
      have e : c a x = 0 ↔ c b x = 0 := ⟨fun e => O.eq_trans hb ha hx (O.eq_turn ha hb h.1) e, fun e => O.eq_trans ha hb hx h.1 e⟩
      rw [e]
omit O in
theorem Alike.length {l m : List α} (h : Alike c l m) : l.length = m.length := by
  induction l generalizing m with
  | nil => cases m with | nil => rfl | cons b m => exact h.elim
  | cons a l ih => cases m with | nil => exact h.elim | cons b m => simp [ih h.2]
end

end Go.Proofs.YtajeghkjppkhcaaGreat
