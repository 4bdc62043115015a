/-
  Several texts in one: OneP, ElemP, PathP.
-/
import Derived.Test.YtajeghkjppkhcaaGreatMapsA
set_option linter.unusedVariables false
set_option linter.unusedSimpArgs false
/-!
  Plain: plain forms of trees taken apart again; a map with one field more.
-/

namespace Go.Proofs.YtajeghkjppkhcaaGreat

theorem ins_last {α : Type} (k : ByteArray) (v : α) (m : List (ByteArray × α)) (h : ∀ p ∈ m, klt p.1 k = true) : ins k v m = m ++ [(k, v)] := by
  induction m with
  | nil => rfl
  | cons p m ih =>
    rw [ins, if_pos (h p (by simp)), ih fun q hq => h q (by simp [hq])]
    rfl
theorem foldl_ins_id {α : Type} (l m : List (ByteArray × α)) (h : Sorted (m ++ l)) : l.foldl (fun m p => ins p.1 p.2 m) m = m ++ l := by
  induction l generalizing m with
  | nil => simp
  | cons p l ih =>
    have hp : ∀ q ∈ m, klt q.1 p.1 = true := fun q hq => (List.pairwise_append.1 h).2.2 q hq p (by simp)
    rw [List.foldl_cons, ins_last _ _ _ hp]
    have e : m ++ p :: l = (m ++ [p]) ++ l := by simp
    rw [e] at h ⊢
    exact ih _ h
theorem mapOf_id {α : Type} {l : List (ByteArray × α)} (h : Sorted l) : mapOf (l.map Prod.fst) (l.map Prod.snd) = l := by
  unfold mapOf
  have e : (l.map Prod.fst).zip (l.map Prod.snd) = l := by
    clear h
    induction l with
    | nil => rfl
    | cons p l ih => simp [ih]
  rw [e]
  exact foldl_ins_id l [] h

/-- all maps in it are in order -/
inductive T.WS : T → Prop
  | null : WS .null
  | bool (b : Bool) : WS (.bool b)
  | int (n : Int) : WS (.int n)
  | flt (f : Nat) : WS (.flt f)
  | str (s : ByteArray) : WS (.str s)
  | list {l : List T} : (∀ t ∈ l, WS t) → WS (.list l)
  | map {l : List (ByteArray × T)} : Sorted l → (∀ k t, (k, t) ∈ l → WS t) → WS (.map l)

theorem tree_ws (r : RV) : r.tree.WS := by
  induction hrk : r.rank using Nat.strongRecOn generalizing r with
  | ind m ih =>
  subst hrk
  obtain ⟨kind, n, f, s, keys, l⟩ := r
  have hl : ∀ t ∈ RV.treeL l, T.WS t := by
    intro t ht
    rw [treeL_eq] at ht
    obtain ⟨r, hr, rfl⟩ := List.mem_map.1 ht
    exact ih _ (RV.rank_lt hr) r rfl
  rw [RV.tree]
  split
  · exact .bool _
  · split
    · exact .int _
    · split
      · exact .flt _
      · split
        · exact .str _
        · split
          · exact .list hl
          · split
            · exact .map (mapOf_sorted _ _) fun k t ht => hl t (mapOf_mem _ _ _ ht)
            · exact .null

theorem toRV_tree {t : T} (h : t.WS) : t.toRV.tree = t := by
  induction h with
  | null => simp [T.toRV, RV.tree]
  | bool b => cases b <;> simp [T.toRV, RV.tree]
  | int n => simp [T.toRV, RV.tree]
  | flt f => simp [T.toRV, RV.tree]
  | str s => simp [T.toRV, RV.tree]
  | @list l h ih =>
    rw [T.toRV, RV.tree, treeL_eq, toRVL_eq, List.map_map]
    have e : l.map (RV.tree ∘ T.toRV) = l := by
      rw [List.map_congr_left (f := RV.tree ∘ T.toRV) (g := id) (fun t ht => ih t ht), List.map_id]
    rw [e]
    simp
  | @map l hs h ih =>
    rw [T.toRV, RV.tree, treeL_eq, toRVM_eq, List.map_map]
    have e : l.map (RV.tree ∘ fun p => p.2.toRV) = l.map Prod.snd := List.map_congr_left fun p hp => ih p.1 p.2 hp
    rw [e, mapOf_id hs]
    simp
end Go.Proofs.YtajeghkjppkhcaaGreat

/-!
  Plain: steps of paths, their order.
-/

namespace Go.Proofs.YtajeghkjppkhcaaGreat

/-- a step of a path, as the package sees it -/
inductive E where
  | field (s : ByteArray)
  | key (l : List (ByteArray × T))
  | val (t : T)
  | idx (n : Int)

def E.ord : E → Int
  | .field _ => 0
  | .key _ => 1
  | .val _ => 2
  | .idx _ => 3
def E.cmp : E → E → Int
  | .field a, .field b => cmpS a b
  | .key a, .key b => T.cmpM a b
  | .val a, .val b => T.cmp a b
  | .idx a, .idx b => cmpI a b
  | a, b => cmpI a.ord b.ord
def E.eqv : E → E → Bool
  | .field a, .field b => decide (a = b)
  | .key a, .key b => T.eqvM a b
  | .val a, .val b => T.eqv a b
  | .idx a, .idx b => a == b
  | _, _ => false
/-- orderly: no NaN, no whole number beyond 2^53, a key's names in order -/
inductive E.Ok : E → Prop
  | field (s : ByteArray) : Ok (.field s)
  | key {l : List (ByteArray × T)} : Sorted l → (T.map l).Ok → Ok (.key l)
  | val {t : T} : t.Ok → Ok (.val t)
  | idx (n : Int) : Ok (.idx n)

theorem E.cmp_ord {a b : E} (h : a.ord ≠ b.ord) : E.cmp a b = cmpI a.ord b.ord := by
  cases a <;> cases b <;> first | rfl | exact absurd rfl h
theorem E.cmp_self {a : E} (h : a.Ok) : E.cmp a a = 0 := by
  cases h with
  | field s => exact cmpS_zero.2 rfl
  | key _ h => exact cmpM_self _ h.fields
  | val h => exact Go.Proofs.YtajeghkjppkhcaaGreat.cmp_self h
  | idx n => exact cmpI_zero.2 rfl
theorem E.eqv_iff {a b : E} (ha : a.Ok) (hb : b.Ok) : E.eqv a b = true ↔ E.cmp a b = 0 := by
  cases ha with
  | field s => cases hb <;> simp [E.cmp, E.eqv, E.ord, cmpI, cmpS_zero]
  | @key l _ h =>
    cases hb with
    | @key l' _ h' => exact eqvM_iff l l' h.fields h'.fields
    | _ => simp [E.cmp, E.eqv, E.ord, cmpI]
  | @val t h =>
    cases hb with
    | @val t' h' => exact Go.Proofs.YtajeghkjppkhcaaGreat.eqv_iff t t' h h'
    | _ => simp [E.cmp, E.eqv, E.ord, cmpI]
  | idx n => cases hb <;> simp [E.cmp, E.eqv, E.ord, cmpI_zero] <;> simp [cmpI]
theorem E.cmp_turn {a b : E} (ha : a.Ok) (hb : b.Ok) : E.cmp b a = - E.cmp a b := by
  by_cases ho : a.ord = b.ord
  · cases ha with
    | field s => cases hb <;> first | exact cmpS_turn _ _ | cases ho
    | @key l _ h =>
      cases hb with
      | @key l' _ h' => exact cmpM_turn l l' h.fields h'.fields
      | _ => cases ho
    | @val t h =>
      cases hb with
      | @val t' h' => exact Go.Proofs.YtajeghkjppkhcaaGreat.cmp_turn t t' h h'
      | _ => cases ho
    | idx n => cases hb <;> first | exact cmpI_turn _ _ | cases ho
  · rw [E.cmp_ord ho, E.cmp_ord (fun e => ho e.symm)]
    exact cmpI_turn _ _
theorem E.cmp_tr {a b c : E} (ha : a.Ok) (hb : b.Ok) (hc : c.Ok) : Tr (E.cmp a b) (E.cmp b c) (E.cmp a c) := by
  by_cases h1 : a.ord = b.ord
  · by_cases h2 : b.ord = c.ord
    · cases ha with
      | field s => cases hb <;> first | cases h1; done | (cases hc <;> first | cases h2; done | exact Tr.of_cmpS _ _ _)
      | @key l _ h =>
        cases hb with
        | @key l' _ h' =>
          cases hc with
          | @key l'' _ h'' => exact cmpM_tr l l' l'' h.fields h'.fields h''.fields
          | _ => cases h2
        | _ => cases h1
      | @val t h =>
        cases hb with
        | @val t' h' =>
          cases hc with
          | @val t'' h'' => exact Go.Proofs.YtajeghkjppkhcaaGreat.cmp_tr t t' t'' h h' h''
          | _ => cases h2
        | _ => cases h1
      | idx n => cases hb <;> first | cases h1; done | (cases hc <;> first | cases h2; done | exact Tr.of_cmpI _ _ _)
    · have e3 : a.ord ≠ c.ord := by rw [h1]; exact h2
      rw [E.cmp_ord h2, E.cmp_ord e3, h1]
      unfold Tr cmpI
      constructor <;> intros <;> (repeat' split at *) <;> omega
  · by_cases h2 : b.ord = c.ord
    · have e3 : a.ord ≠ c.ord := by rw [← h2]; exact h1
      rw [E.cmp_ord h1, E.cmp_ord e3, ← h2]
      unfold Tr cmpI
      constructor <;> intros <;> (repeat' split at *) <;> omega
    · by_cases h3 : a.ord = c.ord
      · rw [E.cmp_ord h1, E.cmp_ord h2, h3]
        unfold Tr cmpI
        constructor <;> intros <;> (repeat' split at *) <;> omega
      · rw [E.cmp_ord h1, E.cmp_ord h2, E.cmp_ord h3]
        exact Tr.of_cmpI _ _ _

/-- a step of a path, as the thin package's struct holds it -/
structure REl where
  kind : Int
  s : ByteArray
  keys : List ByteArray
  l : List RV
  v : RV
  n : Int
/-- the step that a struct stands for -/
def REl.elem (r : REl) : E :=
  if r.kind = 1 then .key (r.keys.zip (r.l.map RV.tree))
  else if r.kind = 2 then .val r.v.tree
  else if r.kind = 3 then .idx r.n
  else .field r.s

def vNull : RV := .mk 0 0 0 ⟨#[]⟩ [] []
/-- the plain form of a step -/
def E.toREl : E → REl
  | .field s => ⟨0, s, [], [], vNull, 0⟩
  | .key l => ⟨1, ⟨#[]⟩, l.map Prod.fst, l.map fun p => p.2.toRV, vNull, 0⟩
  | .val t => ⟨2, ⟨#[]⟩, [], [], t.toRV, 0⟩
  | .idx n => ⟨3, ⟨#[]⟩, [], [], vNull, n⟩

end Go.Proofs.YtajeghkjppkhcaaGreat

/-!
  Plain: paths, their order; sets of steps in order.
-/

namespace Go.Proofs.YtajeghkjppkhcaaGreat

/-- a lexical order; a beginning comes first -/
def pcmp : List E → List E → Int
  | [], [] => 0
  | [], _ :: _ => -1
  | _ :: _, [] => 1
  | a :: p, b :: q => if E.cmp a b = 0 then pcmp p q else E.cmp a b
def peqv : List E → List E → Bool
  | [], [] => true
  | a :: p, b :: q => E.eqv a b && peqv p q
  | _, _ => false
/-- all steps are orderly -/
def POk (p : List E) : Prop := ∀ e ∈ p, e.Ok

theorem peqv_iff : ∀ {p q : List E}, POk p → POk q → (peqv p q = true ↔ pcmp p q = 0)
  | [], [], _, _ => by simp [pcmp, peqv]
  | [], _ :: _, _, _ => by simp [pcmp, peqv]
  | _ :: _, [], _, _ => by simp [pcmp, peqv]
  | a :: p, b :: q, h1, h2 => by
    have e := E.eqv_iff (h1 a (by simp)) (h2 b (by simp))
    have e2 := peqv_iff (p := p) (q := q) (fun t ht => h1 t (by simp [ht])) (fun t ht => h2 t (by simp [ht]))
    rw [pcmp, peqv, Bool.and_eq_true, e, e2]
    by_cases h : E.cmp a b = 0
    · rw [if_pos h]; simp [h]
    · rw [if_neg h]; simp [h]
/-! total orders on orderly things -/
structure TOrd {α : Type} (c : α → α → Int) (Ok : α → Prop) : Prop where
  self : ∀ {a : α}, Ok a → c a a = 0
  turn : ∀ {a b : α}, Ok a → Ok b → c b a = - c a b
  tr : ∀ {a b d : α}, Ok a → Ok b → Ok d → Tr (c a b) (c b d) (c a d)
theorem E.ord_ : TOrd E.cmp E.Ok := ⟨fun h => E.cmp_self h, fun h k => E.cmp_turn h k, fun h k l => E.cmp_tr h k l⟩
section
variable {α : Type} {c : α → α → Int} {Ok : α → Prop} (O : TOrd c Ok)

/-- in increasing order, each once -/
def SortC (c : α → α → Int) (l : List α) : Prop := l.Pairwise fun a b => c a b < 0
/-- laid into a list in order; of equal ones the first one stays -/
def insC (c : α → α → Int) (e : α) : List α → List α
  | [] => [e]
  | a :: l => if c a e < 0 then a :: insC c e l else if c a e = 0 then a :: l else e :: a :: l
/-- how many come before e -/
def cntC (c : α → α → Int) (e : α) : List α → Nat
  | [] => 0
  | a :: l => if c a e < 0 then cntC c e l + 1 else 0
/-- one that equals e is in the list -/
def HasC (c : α → α → Int) (l : List α) (e : α) : Prop := ∃ a ∈ l, c a e = 0
/-- one that equals e stands at the place where it would be laid -/
def hasC (c : α → α → Int) (e : α) (l : List α) : Bool := match l[cntC c e l]? with
  | some a => decide (c a e = 0)
  | none => false
/-- pair by pair equal -/
def Alike (c : α → α → Int) : List α → List α → Prop
  | [], [] => True
  | a :: l, b :: m => c a b = 0 ∧ Alike c l m
  | _, _ => False

theorem cntC_le (e : α) (l : List α) : cntC c e l ≤ l.length := by
  induction l with
  | nil => simp [cntC]
  | cons a l ih => simp only [cntC, List.length_cons]; split <;> omega
theorem insC_eq (e : α) (l : List α) : insC c e l = if hasC c e l = true then l else l.take (cntC c e l) ++ e :: l.drop (cntC c e l) := by
  induction l with
  | nil => simp [insC, hasC, cntC]
  | cons a l ih =>
    simp only [insC, cntC, hasC]
    by_cases h : c a e < 0
    · simp only [h, if_true, List.getElem?_cons_succ, List.take_succ_cons, List.drop_succ_cons, List.cons_append]
      rw [ih]
      unfold hasC
      split <;> split <;> simp_all
    · by_cases h2 : c a e = 0
      · simp [h, h2]
      · simp [h, h2]
theorem mem_insC {e x : α} {l : List α} (h : x ∈ insC c e l) : x = e ∨ x ∈ l := by
  induction l with
  | nil => simp [insC] at h; exact .inl h
  | cons a l ih =>
    simp only [insC] at h
    split at h
    · rcases List.mem_cons.1 h with h | h
      · exact .inr (by simp [h])
      · rcases ih h with h | h
        · exact .inl h
        · exact .inr (by simp [h])
    · split at h
      · exact .inr h
      · rcases List.mem_cons.1 h with h | h
        · exact .inl h
        · exact .inr h
theorem insC_ok {e : α} {l : List α} (he : Ok e) (hl : ∀ x ∈ l, Ok x) : ∀ x ∈ insC c e l, Ok x := fun x hx => by
  rcases mem_insC hx with rfl | h
  · exact he
  · exact hl x h
theorem insC_length (e : α) (l : List α) : (insC c e l).length ≤ l.length + 1 := by
  rw [insC_eq]
  split
  · omega
  · have := cntC_le (c := c) e l
    simp
    omega
theorem HasC_cons {a : α} {l : List α} {x : α} : HasC c (a :: l) x ↔ c a x = 0 ∨ HasC c l x := by simp [HasC]
theorem HasC_append {l m : List α} {x : α} : HasC c (l ++ m) x ↔ HasC c l x ∨ HasC c m x := by
  unfold HasC
  constructor
  · rintro ⟨a, h, e⟩
    rcases List.mem_append.1 h with h | h
    · exact .inl ⟨a, h, e⟩
    · exact .inr ⟨a, h, e⟩
  · rintro (⟨a, h, e⟩ | ⟨a, h, e⟩)
    · exact ⟨a, List.mem_append_left _ h, e⟩
    · exact ⟨a, List.mem_append_right _ h, e⟩

include O
theorem TOrd.lt_trans {a b d : α} (ha : Ok a) (hb : Ok b) (hd : Ok d) (h1 : c a b < 0) (h2 : c b d < 0) : c a d < 0 := (O.tr ha hb hd).2 (by omega) (by omega) (.inl h1)
theorem TOrd.lt_le {a b d : α} (ha : Ok a) (hb : Ok b) (hd : Ok d) (h1 : c a b < 0) (h2 : c b d ≤ 0) : c a d < 0 := (O.tr ha hb hd).2 (by omega) (by omega) (.inl h1)
theorem TOrd.le_lt {a b d : α} (ha : Ok a) (hb : Ok b) (hd : Ok d) (h1 : c a b ≤ 0) (h2 : c b d < 0) : c a d < 0 := (O.tr ha hb hd).2 (by omega) (by omega) (.inr h2)
theorem TOrd.eq_trans {a b d : α} (ha : Ok a) (hb : Ok b) (hd : Ok d) (h1 : c a b = 0) (h2 : c b d = 0) : c a d = 0 := (O.tr ha hb hd).1 h1 h2
theorem TOrd.eq_turn {a b : α} (ha : Ok a) (hb : Ok b) (h : c a b = 0) : c b a = 0 := by rw [O.turn ha hb]; omega
theorem TOrd.gt {a b : α} (ha : Ok a) (hb : Ok b) (h1 : ¬ c a b < 0) (h2 : ¬ c a b = 0) : c b a < 0 := by rw [O.turn ha hb]; omega
theorem insC_sorted {e : α} {l : List α} (he : Ok e) (hl : ∀ x ∈ l, Ok x) (hs : SortC c l) : SortC c (insC c e l) := by
  induction l with
  | nil => simp [insC, SortC]
  | cons a l ih =>
    obtain ⟨h1, h2⟩ := List.pairwise_cons.1 hs
    have ha := hl a (by simp)
    have hl' : ∀ x ∈ l, Ok x := fun x hx => hl x (by simp [hx])
    simp only [insC]
    split
    · rename_i h
      refine List.pairwise_cons.2 ⟨fun x hx => ?_, ih hl' h2⟩
      rcases mem_insC hx with rfl | hx
      · exact h
      · exact h1 x hx
    · rename_i h
      split
      · exact hs
      · rename_i h3
        have hlt := O.gt ha he h h3
        refine List.pairwise_cons.2 ⟨fun x hx => ?_, hs⟩
        rcases List.mem_cons.1 hx with rfl | hx
        · exact hlt
        · exact O.lt_trans he ha (hl' x hx) hlt (h1 x hx)
/-- in order: what stands before the place is less, and nothing behind it is -/
theorem cntC_lt {e : α} {l : List α} (he : Ok e) (hl : ∀ x ∈ l, Ok x) (hs : SortC c l) : ∀ (i : Nat) a, l[i]? = some a → (c a e < 0 ↔ i < cntC c e l) := by
  induction l with
  | nil => intro i a h; simp at h
  | cons x l ih =>
    obtain ⟨h1, h2⟩ := List.pairwise_cons.1 hs
    have hx := hl x (by simp)
    have hl' : ∀ y ∈ l, Ok y := fun y hy => hl y (by simp [hy])
    intro i a ha
    simp only [cntC]
    cases i with
    | zero =>
      simp at ha
      subst ha
      split <;> rename_i hp <;> simp [hp]
    | succ i =>
      simp only [List.getElem?_cons_succ] at ha
      split
      · rename_i hp
        rw [ih hl' h2 i a ha]
        omega
      · rename_i hp
        have hmem := List.mem_of_getElem? ha
        constructor
        · intro hk
          exact absurd (O.lt_trans hx (hl' a hmem) he (h1 a hmem) hk) hp
        · intro h; omega
theorem hasC_iff {e : α} {l : List α} (he : Ok e) (hl : ∀ x ∈ l, Ok x) (hs : SortC c l) : hasC c e l = true ↔ HasC c l e := by
  unfold HasC
  induction l with
  | nil => simp [hasC]
  | cons x l ih =>
    obtain ⟨h1, h2⟩ := List.pairwise_cons.1 hs
    have hx := hl x (by simp)
    have hl' : ∀ y ∈ l, Ok y := fun y hy => hl y (by simp [hy])
    have ih := ih hl' h2
    unfold hasC at ih ⊢
    simp only [cntC]
    by_cases hp : c x e < 0
    · rw [if_pos hp]
      simp only [List.getElem?_cons_succ]
      rw [ih]
      constructor
      · rintro ⟨a, h3, h4⟩; exact ⟨a, by simp [h3], h4⟩
      · rintro ⟨a, h3, h4⟩
        rcases List.mem_cons.1 h3 with rfl | h3
        · omega
        · exact ⟨a, h3, h4⟩
    · rw [if_neg hp]
      simp only [List.getElem?_cons_zero, decide_eq_true_eq]
      constructor
      · intro h; exact ⟨x, by simp, h⟩
      · rintro ⟨a, h3, h4⟩
        rcases List.mem_cons.1 h3 with rfl | h3
        · exact h4
        · have := O.lt_le hx (hl' a h3) he (h1 a h3) (by omega)
          omega
theorem HasC.congr {l : List α} {e e' : α} (hl : ∀ x ∈ l, Ok x) (he : Ok e) (he' : Ok e') (h : c e e' = 0) : HasC c l e ↔ HasC c l e' := by
  constructor
  · rintro ⟨a, h1, h2⟩; exact ⟨a, h1, O.eq_trans (hl a h1) he he' h2 h⟩
  · rintro ⟨a, h1, h2⟩; exact ⟨a, h1, O.eq_trans (hl a h1) he' he h2 (O.eq_turn he he' h)⟩
theorem HasC_insC {e x : α} {l : List α} (he : Ok e) (hx : Ok x) (hl : ∀ y ∈ l, Ok y) : HasC c (insC c e l) x ↔ c e x = 0 ∨ HasC c l x := by
  induction l with
  | nil => simp [insC, HasC]
  | cons a l ih =>
    have ha := hl a (by simp)
    have ih := ih fun y hy => hl y (by simp [hy])
    simp only [insC]
    split
    · rw [HasC_cons, HasC_cons, ih]
      constructor
      · rintro (h | h | h)
        · exact .inr (.inl h)
        · exact .inl h
        · exact .inr (.inr h)
      · rintro (h | h | h)
        · exact .inr (.inl h)
        · exact .inl h
        · exact .inr (.inr h)
    · split
      · rename_i h2
        rw [HasC_cons]
        constructor
        · exact fun h => .inr h
        · rintro (h | h)
          · exact .inl (O.eq_trans ha he hx h2 h)
          · exact h
      · rw [HasC_cons]
/-- two lists in order with the same in them are alike -/
theorem alike_of {l m : List α} (hl : ∀ x ∈ l, Ok x) (hm : ∀ x ∈ m, Ok x) (sl : SortC c l) (sm : SortC c m) (h : ∀ x, Ok x → (HasC c l x ↔ HasC c m x)) : Alike c l m := by
  induction l generalizing m with
  | nil =>
    cases m with
    | nil => trivial
    | cons b m =>
      have := (h b (hm b (by simp))).2 ⟨b, by simp, O.self (hm b (by simp))⟩
      obtain ⟨a, ha, _⟩ := this
      cases ha
  | cons a l ih =>
    cases m with
    | nil =>
      have := (h a (hl a (by simp))).1 ⟨a, by simp, O.self (hl a (by simp))⟩
      obtain ⟨b, hb, _⟩ := this
      cases hb
    | cons b m =>
      obtain ⟨l1, l2⟩ := List.pairwise_cons.1 sl
      obtain ⟨m1, m2⟩ := List.pairwise_cons.1 sm
      have ha := hl a (by simp)
      have hb := hm b (by simp)
      have hl' : ∀ x ∈ l, Ok x := fun x hx => hl x (by simp [hx])
      have hm' : ∀ x ∈ m, Ok x := fun x hx => hm x (by simp [hx])
      have hab : c a b = 0 := by
        obtain ⟨x, hx, ex⟩ := (h a ha).1 ⟨a, by simp, O.self ha⟩
        obtain ⟨y, hy, ey⟩ := (h b hb).2 ⟨b, by simp, O.self hb⟩
        rcases List.mem_cons.1 hx with rfl | hx
        · exact O.eq_turn hb ha ex
        · rcases List.mem_cons.1 hy with rfl | hy
          · exact ey
          · have h1 := O.lt_le ha (hl' y hy) hb (l1 y hy) (by omega)
            have h2 := O.lt_le hb (hm' x hx) ha (m1 x hx) (by omega)
            have := O.turn ha hb
            omega
      refine ⟨hab, ih hl' hm' l2 m2 fun x hx => ?_⟩
      have hx' := h x hx
      have hax : (∀ y, y ∈ l → c y x = 0 → c a x < 0) := fun y hy e => O.lt_le ha (hl' y hy) hx (l1 y hy) (by omega)
      have hbx : (∀ y, y ∈ m → c y x = 0 → c b x < 0) := fun y hy e => O.lt_le hb (hm' y hy) hx (m1 y hy) (by omega)
      constructor
      · rintro ⟨y, hy, e⟩
        obtain ⟨z, hz, ez⟩ := hx'.1 ⟨y, by simp [hy], e⟩
        rcases List.mem_cons.1 hz with rfl | hz
        · have h1 := hax y hy e
          have h2 := O.eq_trans ha hb hx hab ez
          omega
        · exact ⟨z, hz, ez⟩
      · rintro ⟨y, hy, e⟩
        obtain ⟨z, hz, ez⟩ := hx'.2 ⟨y, by simp [hy], e⟩
        rcases List.mem_cons.1 hz with rfl | hz
        · have h1 := hbx y hy e
          have h2 := O.eq_trans hb ha hx (O.eq_turn ha hb hab) ez
          omega
        · exact ⟨z, hz, ez⟩
theorem Alike.refl {l : List α} (hl : ∀ x ∈ l, Ok x) : Alike c l l := by
  induction l with
  | nil => trivial
  | cons a l ih => exact ⟨O.self (hl a (by simp)), ih fun x hx => hl x (by simp [hx])⟩
theorem Alike.has {l m : List α} (hl : ∀ x ∈ l, Ok x) (hm : ∀ x ∈ m, Ok x) (h : Alike c l m) {x : α} (hx : Ok x) : HasC c l x ↔ HasC c m x := by
  induction l generalizing m with
  | nil => cases m with | nil => rfl | cons b m => exact h.elim
  | cons a l ih =>
    cases m with
    | nil => exact h.elim
    | cons b m =>
      rw [HasC_cons, HasC_cons, ih (fun y hy => hl y (by simp [hy])) (fun y hy => hm y (by simp [hy])) h.2]
      have ha := hl a (by simp)
      have hb := hm b (by simp)
      have e : c a x = 0 ↔ c b x = 0 := ⟨fun e => O.eq_trans hb ha hx (O.eq_turn ha hb h.1) e, fun e => O.eq_trans ha hb hx h.1 e⟩
      rw [e]
omit O in
theorem Alike.length {l m : List α} (h : Alike c l m) : l.length = m.length := by
  induction l generalizing m with
  | nil => cases m with | nil => rfl | cons b m => exact h.elim
  | cons a l ih => cases m with | nil => exact h.elim | cons b m => simp [ih h.2]
end

end Go.Proofs.YtajeghkjppkhcaaGreat
