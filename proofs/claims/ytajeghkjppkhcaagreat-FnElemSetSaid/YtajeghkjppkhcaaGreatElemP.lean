/-
  Plain: steps of paths, their order.
-/
import Derived.Test.YtajeghkjppkhcaaGreatOneP
set_option linter.unusedVariables false
set_option linter.unusedSimpArgs false
namespace Go.Proofs.YtajeghkjppkhcaaGreat

/-- a step of a path, as the package sees it -/
inductive E where
  | field (s : ByteArray)
  | key (l : List (ByteArray × T))
  | val (t : T)
  | idx (n : Int)

def E.ord : E → Int
  | .field _ => 0
  | .key _ => 1
  | .val _ => 2
  | .idx _ => 3
def E.cmp : E → E → Int
  | .field a, .field b => cmpS a b
  | .key a, .key b => T.cmpM a b
  | .val a, .val b => T.cmp a b
  | .idx a, .idx b => cmpI a b
  | a, b => cmpI a.ord b.ord
def E.eqv : E → E → Bool
  | .field a, .field b => decide (a = b)
  | .key a, .key b => T.eqvM a b
  | .val a, .val b => T.eqv a b
  | .idx a, .idx b => a == b
  | _, _ => false
/-- orderly: no NaN, no whole number beyond 2^53, a key's names in order -/
inductive E.Ok : E → Prop
  | field (s : ByteArray) : Ok (.field s)
  | key {l : List (ByteArray × T)} : Sorted l → (T.map l).Ok → Ok (.key l)
  | val {t : T} : t.Ok → Ok (.val t)
  | idx (n : Int) : Ok (.idx n)

theorem E.cmp_ord {a b : E} (h : a.ord ≠ b.ord) : E.cmp a b = cmpI a.ord b.ord := by
  cases a <;> cases b <;> first | rfl | exact absurd rfl h
theorem E.cmp_self {a : E} (h : a.Ok) : E.cmp a a = 0 := by
  cases h with
  | field s => exact cmpS_zero.2 rfl
  | key _ h => exact cmpM_self _ h.fields
  | val h => exact Go.Proofs.YtajeghkjppkhcaaGreat.cmp_self h
  | idx n => exact cmpI_zero.2 rfl
theorem E.eqv_iff {a b : E} (ha : a.Ok) (hb : b.Ok) : E.eqv a b = true ↔ E.cmp a b = 0 := by
  cases ha with
  | field s => cases hb <;> simp [E.cmp, E.eqv, E.ord, cmpI, cmpS_zero]
  | @key l _ h =>
    cases hb with
    | @key l' _ h' => exact eqvM_iff l l' h.fields h'.fields
    | _ => simp [E.cmp, E.eqv, E.ord, cmpI]
  | @val t h =>
    cases hb with
    | @val t' h' => exact Go.Proofs.YtajeghkjppkhcaaGreat.eqv_iff t t' h h'
    | _ => simp [E.cmp, E.eqv, E.ord, cmpI]
  | idx n => cases hb <;> simp [E.cmp, E.eqv, E.ord, cmpI_zero] <;> simp [cmpI]
theorem E.cmp_turn {a b : E} (ha : a.Ok) (hb : b.Ok) : E.cmp b a = - E.cmp a b := by
  by_cases ho : a.ord = b.ord
  · cases ha with
    | field s => cases hb <;> first | exact cmpS_turn _ _ | cases ho
    | @key l _ h =>
      cases hb with
      | @key l' _ h' => exact cmpM_turn l l' h.fields h'.fields
      | _ => cases ho
    | @val t h =>
      cases hb with
      | @val t' h' => exact Go.Proofs.YtajeghkjppkhcaaGreat.cmp_turn t t' h h'
      | _ => cases ho
    | idx n => cases hb <;> first | exact cmpI_turn _ _ | cases ho
  · rw [E.cmp_ord ho, E.cmp_ord (fun e => ho e.symm)]
    exact cmpI_turn _ _
theorem E.cmp_tr {a b c : E} (ha : a.Ok) (hb : b.Ok) (hc : c.Ok) : Tr (E.cmp a b) (E.cmp b c) (E.cmp a c) := by
  by_cases h1 : a.ord = b.ord
  · by_cases h2 : b.ord = c.ord
    · cases ha with
      | field s => cases hb <;> first | cases h1; done | (cases hc <;> first | cases h2; done | exact Tr.of_cmpS _ _ _)
      | @key l _ h =>
        cases hb with
        | @key l' _ h' =>
          cases hc with
          | @key l'' _ h'' => exact cmpM_tr l l' l'' h.fields h'.fields h''.fields
          | _ => cases h2
        | _ => cases h1
      | @val t h =>
        cases hb with
        | @val t' h' =>
          cases hc with
          | @val t'' h'' => exact Go.Proofs.YtajeghkjppkhcaaGreat.cmp_tr t t' t'' h h' h''
          | _ => cases h2
        | _ => cases h1
      | idx n => cases hb <;> first | cases h1; done | (cases hc <;> first | cases h2; done | exact Tr.of_cmpI _ _ _)
    · have e3 : a.ord ≠ c.ord := by rw [h1]; exact h2
      rw [E.cmp_ord h2, E.cmp_ord e3, h1]
      unfold Tr cmpI
      constructor <;> intros <;> (repeat' split at *) <;> omega
  · by_cases h2 : b.ord = c.ord
    · have e3 : a.ord ≠ c.ord := by rw [← h2]; exact h1
      rw [E.cmp_ord h1, E.cmp_ord e3, ← h2]
      unfold Tr cmpI
      constructor <;> intros <;> (repeat' split at *) <;> omega
    · by_cases h3 : a.ord = c.ord
      · rw [E.cmp_ord h1, E.cmp_ord h2, h3]
        unfold Tr cmpI
        constructor <;> intros <;> (repeat' split at *) <;> omega
      · rw [E.cmp_ord h1, E.cmp_ord h2, E.cmp_ord h3]
        exact Tr.of_cmpI _ _ _

/-- a step of a path, as the thin package's struct holds it -/
structure REl where
  kind : Int
  s : ByteArray
  keys : List ByteArray
  l : List RV
  v : RV
  n : Int
/-- the step that a struct stands for -/
def REl.elem (r : REl) : E :=
  if r.kind = 1 then .key (r.keys.zip (r.l.map RV.tree))
  else if r.kind = 2 then .val r.v.tree
  else if r.kind = 3 then .idx r.n
  else .field r.s

def vNull : RV := .mk 0 0 0 ⟨#[]⟩ [] []
/-- the plain form of a step -/
def E.toREl : E → REl
  | .field s => ⟨0, s, [], [], vNull, 0⟩
  | .key l => ⟨1, ⟨#[]⟩, l.map Prod.fst, l.map fun p => p.2.toRV, vNull, 0⟩
  | .val t => ⟨2, ⟨#[]⟩, [], [], t.toRV, 0⟩
  | .idx n => ⟨3, ⟨#[]⟩, [], [], vNull, n⟩

end Go.Proofs.YtajeghkjppkhcaaGreat
