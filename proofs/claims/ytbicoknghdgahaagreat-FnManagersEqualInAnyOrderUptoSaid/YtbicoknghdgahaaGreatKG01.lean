/- Parts: PathP, Iter, AlgP, MgM. -/
import Derived.Test.YtbicoknghdgahaaGreatKB16
set_option linter.unusedVariables false
set_option linter.unusedSimpArgs false
namespace Go.Proofs.YtbicoknghdgahaaGreat

section
variable {α : Type} {c : α → α → Int} {Ok : α → Prop} (O : TOrd c Ok)

include O
theorem TOrd.le_lt {a b d : α} (ha : Ok a) (hb : Ok b) (hd : Ok d) (h1 : c a b ≤ 0) (h2 : c b d < 0) : c a d < 0 := (O.tr ha hb hd).2 (by omega) (by omega) (.inr h2)
end

end Go.Proofs.YtbicoknghdgahaaGreat

namespace Go.Proofs.YtbicoknghdgahaaGreat
open Go.RowKit
attribute [local go_sem] run_store_float

theorem ht_paths : ∀ {n : Nat} {s : St}, s.Ht n → ∀ p ∈ s.paths, p.length ≤ n
 | 0, s, h, p, hp => by cases h
 | n + 1, s, h, p, hp => by
  cases h with
  | @mk n m ks h =>
   rcases paths_mem.1 hp with ⟨e, -, rfl⟩ | ⟨k, hk, q, hq, rfl⟩
   ·simp
   ·have := ht_paths (h k hk) q hq
    simp only [List.length_cons]; omega

end Go.Proofs.YtbicoknghdgahaaGreat

namespace Go.Proofs.YtbicoknghdgahaaGreat

section
variable {α : Type} {c : α → α → Int} {Ok : α → Prop} (O : TOrd c Ok)

def mrg (c : α → α → Int) (kl kr : Bool) (f : α → α → Option α) : List α → List α → List α
 | [], m => if kr = true then m else []
 | a :: l, [] => if kl = true then a :: l else []
 | a :: l, b :: m =>
  if c a b < 0 then (if kl = true then a :: mrg c kl kr f l (b :: m) else mrg c kl kr f l (b :: m))
  else if c b a < 0 then (if kr = true then b :: mrg c kl kr f (a :: l) m else mrg c kl kr f (a :: l) m)
  else (f a b).toList ++ mrg c kl kr f l m
termination_by l m => l.length + m.length

theorem mrg_nil_l {kl kr : Bool} {f : α → α → Option α} {m : List α} : mrg c kl kr f [] m = if kr = true then m else [] := by cases m <;> rw [mrg]
theorem mrg_nil_r {kl kr : Bool} {f : α → α → Option α} {l : List α} : mrg c kl kr f l [] = if kl = true then l else [] := by
 cases l with
 | nil => rw [mrg]; cases kl <;> cases kr <;> rfl
 | cons a l => rw [mrg]
theorem mrg_cons {kl kr : Bool} {f : α → α → Option α} {a b : α} {l m : List α} : mrg c kl kr f (a :: l) (b :: m) =
  if c a b < 0 then (if kl = true then a :: mrg c kl kr f l (b :: m) else mrg c kl kr f l (b :: m))
  else if c b a < 0 then (if kr = true then b :: mrg c kl kr f (a :: l) m else mrg c kl kr f (a :: l) m)
  else (f a b).toList ++ mrg c kl kr f l m := by rw [mrg]

theorem mrg_mem {kl kr : Bool} {f : α → α → Option α} : ∀ {l m : List α} {x : α}, x ∈ mrg c kl kr f l m → x ∈ l ∨ x ∈ m ∨ ∃ a ∈ l, ∃ b ∈ m, ¬ c a b < 0 ∧ ¬ c b a < 0 ∧ f a b = some x
 | [], m, x, h => by
  rw [mrg_nil_l] at h
  cases kr
  ·simp at h
  ·exact .inr (.inl h)
 | a :: l, [], x, h => by
  rw [mrg_nil_r] at h
  cases kl
  ·simp at h
  ·exact .inl h
 | a :: l, b :: m, x, h => by
  have w1 : (x ∈ mrg c kl kr f l (b :: m)) → x ∈ a :: l ∨ x ∈ b :: m ∨ ∃ a' ∈ a :: l, ∃ b' ∈ b :: m, ¬ c a' b' < 0 ∧ ¬ c b' a' < 0 ∧ f a' b' = some x := fun h => by
   rcases mrg_mem h with h | h | ⟨a', ha, b', hb, h⟩
   ·exact .inl (List.mem_cons_of_mem _ h)
   ·exact .inr (.inl h)
   ·exact .inr (.inr ⟨a', List.mem_cons_of_mem _ ha, b', hb, h⟩)
  have w2 : (x ∈ mrg c kl kr f (a :: l) m) → x ∈ a :: l ∨ x ∈ b :: m ∨ ∃ a' ∈ a :: l, ∃ b' ∈ b :: m, ¬ c a' b' < 0 ∧ ¬ c b' a' < 0 ∧ f a' b' = some x := fun h => by
   rcases mrg_mem h with h | h | ⟨a', ha, b', hb, h⟩
   ·exact .inl h
   ·exact .inr (.inl (List.mem_cons_of_mem _ h))
   ·exact .inr (.inr ⟨a', ha, b', List.mem_cons_of_mem _ hb, h⟩)
  rw [mrg_cons] at h
  split at h
  ·split at h
   ·rcases List.mem_cons.1 h with rfl | h
    ·exact .inl (by simp)
    ·exact w1 h
   ·exact w1 h
  ·rename_i h1
   split at h
   ·split at h
    ·rcases List.mem_cons.1 h with rfl | h
     ·exact .inr (.inl (by simp))
     ·exact w2 h
    ·exact w2 h
   ·rename_i h2
    rcases List.mem_append.1 h with h | h
    ·exact .inr (.inr ⟨a, by simp, b, by simp, h1, h2, by simpa using h⟩)
    ·rcases mrg_mem h with h | h | ⟨a', ha, b', hb, h⟩
     ·exact .inl (List.mem_cons_of_mem _ h)
     ·exact .inr (.inl (List.mem_cons_of_mem _ h))
     ·exact .inr (.inr ⟨a', List.mem_cons_of_mem _ ha, b', List.mem_cons_of_mem _ hb, h⟩)
termination_by l m => l.length + m.length

theorem mrg_length {kl kr : Bool} {f : α → α → Option α} : ∀ {l m : List α}, (mrg c kl kr f l m).length ≤ l.length + m.length
 | [], m => by rw [mrg_nil_l]; split <;> simp
 | a :: l, [] => by rw [mrg_nil_r]; split <;> simp
 | a :: l, b :: m => by
  have w1 : (mrg c kl kr f l (b :: m)).length ≤ _ := mrg_length
  have w2 : (mrg c kl kr f (a :: l) m).length ≤ _ := mrg_length
  have w3 : (mrg c kl kr f l m).length ≤ _ := mrg_length
  have w4 : (f a b).toList.length ≤ 1 := by cases f a b <;> simp
  simp only [List.length_cons] at w1 w2 ⊢
  rw [mrg_cons]
  split
  ·split
   ·rw [List.length_cons]; omega
   ·omega
  ·split
   ·split
    ·rw [List.length_cons]; omega
    ·omega
   ·rw [List.length_append]; omega
termination_by l m => l.length + m.length

include O
theorem mrg_sorted {kl kr : Bool} {f : α → α → Option α} (hf : ∀ a b x, Ok a → Ok b → c a b = 0 → f a b = some x → Ok x ∧ c a x = 0) : ∀ {l m : List α}, (∀ x ∈ l, Ok x) → (∀ x ∈ m, Ok x) → SortC c l → SortC c m →
  SortC c (mrg c kl kr f l m) ∧ (∀ x ∈ mrg c kl kr f l m, Ok x) ∧ (∀ e, Ok e → (∀ a ∈ l, c e a < 0) → (∀ b ∈ m, c e b < 0) → ∀ x ∈ mrg c kl kr f l m, c e x < 0)
 | [], m, _, hm, _, sm => by
  rw [mrg_nil_l]
  split
  ·exact ⟨sm, hm, fun e _ _ h x hx => h x hx⟩
  ·exact ⟨List.Pairwise.nil, by simp, by simp⟩
 | a :: l, [], hl, _, sl, _ => by
  rw [mrg_nil_r]
  split
  ·exact ⟨sl, hl, fun e _ h _ x hx => h x hx⟩
  ·exact ⟨List.Pairwise.nil, by simp, by simp⟩
 | a :: l, b :: m, hl, hm, sl, sm => by
  have ha := hl a (by simp)
  have hb := hm b (by simp)
  have hl' : ∀ x ∈ l, Ok x := fun x hx => hl x (by simp [hx])
  have hm' : ∀ x ∈ m, Ok x := fun x hx => hm x (by simp [hx])
  obtain ⟨l1, l2⟩ := List.pairwise_cons.1 sl
  obtain ⟨m1, m2⟩ := List.pairwise_cons.1 sm
  rw [mrg_cons]
  split
  ·rename_i h
   obtain ⟨i1, i2, i3⟩ := mrg_sorted (kl := kl) (kr := kr) hf hl' hm l2 sm
   split
   ·refine ⟨List.pairwise_cons.2 ⟨fun x hx => i3 a ha l1 (fun y hy => ?_) x hx, i1⟩, fun x hx => ?_, fun e he h1 h2 x hx => ?_⟩
    ·rcases List.mem_cons.1 hy with rfl | hy
     ·exact h
     ·exact O.lt_trans ha hb (hm' y hy) h (m1 y hy)
    ·rcases List.mem_cons.1 hx with rfl | hx
     ·exact ha
     ·exact i2 x hx
    ·rcases List.mem_cons.1 hx with rfl | hx
     ·exact h1 x (by simp)
     ·exact i3 e he (fun y hy => h1 y (by simp [hy])) h2 x hx
   ·exact ⟨i1, i2, fun e he h1 h2 x hx => i3 e he (fun y hy => h1 y (by simp [hy])) h2 x hx⟩
  ·rename_i h
   split
   ·rename_i h'
    obtain ⟨i1, i2, i3⟩ := mrg_sorted (kl := kl) (kr := kr) hf hl hm' sl m2
    split
    ·refine ⟨List.pairwise_cons.2 ⟨fun x hx => i3 b hb (fun y hy => ?_) m1 x hx, i1⟩, fun x hx => ?_, fun e he h1 h2 x hx => ?_⟩
     ·rcases List.mem_cons.1 hy with rfl | hy
      ·exact h'
      ·exact O.lt_trans hb ha (hl' y hy) h' (l1 y hy)
     ·rcases List.mem_cons.1 hx with rfl | hx
      ·exact hb
      ·exact i2 x hx
     ·rcases List.mem_cons.1 hx with rfl | hx
      ·exact h2 x (by simp)
      ·exact i3 e he h1 (fun y hy => h2 y (by simp [hy])) x hx
    ·exact ⟨i1, i2, fun e he h1 h2 x hx => i3 e he h1 (fun y hy => h2 y (by simp [hy])) x hx⟩
   ·rename_i h'
    have hab : c a b = 0 := by have := O.turn ha hb; omega
    obtain ⟨i1, i2, i3⟩ := mrg_sorted (kl := kl) (kr := kr) hf hl' hm' l2 m2
    cases hfab : f a b with
    | none =>
     rw [Option.toList_none, List.nil_append]
     exact ⟨i1, i2, fun e he h1 h2 x hx => i3 e he (fun y hy => h1 y (by simp [hy])) (fun y hy => h2 y (by simp [hy])) x hx⟩
    | some y =>
     obtain ⟨hy, hay⟩ := hf a b y ha hb hab hfab
     rw [Option.toList_some, List.cons_append, List.nil_append]
     refine ⟨List.pairwise_cons.2 ⟨fun x hx => i3 y hy (fun z hz => ?_) (fun z hz => ?_) x hx, i1⟩, fun x hx => ?_, fun e he h1 h2 x hx => ?_⟩
     ·exact O.le_lt hy ha (hl' z hz) (by rw [O.eq_turn ha hy hay]; omega) (l1 z hz)
     ·exact O.le_lt hy hb (hm' z hz) (by rw [O.eq_trans hy ha hb (O.eq_turn ha hy hay) hab]; omega) (m1 z hz)
     ·rcases List.mem_cons.1 hx with rfl | hx
      ·exact hy
      ·exact i2 x hx
     ·rcases List.mem_cons.1 hx with rfl | hx
      ·exact O.lt_le he ha hy (h1 a (by simp)) (by omega)
      ·exact i3 e he (fun y hy => h1 y (by simp [hy])) (fun y hy => h2 y (by simp [hy])) x hx
termination_by l m => l.length + m.length
end

def getC {α : Type} (c : α → α → Int) (x : α) : List α → Option α
 | [] => none
 | a :: l => if c a x = 0 then some a else getC c x l
section
variable {α : Type} {c : α → α → Int} {Ok : α → Prop} (O : TOrd c Ok)
theorem getC_mem {x : α} {l : List α} {a : α} (h : getC c x l = some a) : a ∈ l ∧ c a x = 0 := by
 induction l with
 | nil => cases h
 | cons b l ih =>
  rw [getC] at h
  split at h
  ·cases h; exact ⟨by simp, by assumption⟩
  ·obtain ⟨h1, h2⟩ := ih h; exact ⟨by simp [h1], h2⟩
theorem getC_none {x : α} {l : List α} (h : ∀ a ∈ l, ¬ c a x = 0) : getC c x l = none := by
 induction l with
 | nil => rfl
 | cons b l ih => rw [getC, if_neg (h b (by simp))]; exact ih fun a ha => h a (by simp [ha])
theorem getC_append {x : α} {l m : List α} : getC c x (l ++ m) = match getC c x l with | some a => some a | none => getC c x m := by
 induction l with
 | nil => rfl
 | cons b l ih =>
  rw [List.cons_append, getC, getC]
  split
  ·rfl
  ·exact ih
theorem hasC_get {x : α} {l : List α} : HasC c l x ↔ (getC c x l).isSome = true := by
 induction l with
 | nil => simp [HasC, getC]
 | cons b l ih =>
  rw [HasC_cons, ih, getC]
  split <;> rename_i h <;> simp [h]
include O
theorem getC_lt {x : α} {l : List α} {a : α} (ha : Ok a) (hx : Ok x) (hl : ∀ y ∈ l, Ok y) (h : ∀ y ∈ l, c a y < 0) (h0 : c a x = 0) : getC c x l = none :=
 getC_none fun y hy e => by have := O.lt_le ha (hl y hy) hx (h y hy) (by omega); omega
theorem getC_mrg {kl kr : Bool} {f : α → α → Option α} (hf : ∀ a b x, Ok a → Ok b → c a b = 0 → f a b = some x → Ok x ∧ c a x = 0) {x : α} (hx : Ok x) : ∀ {l m : List α}, (∀ x ∈ l, Ok x) → (∀ x ∈ m, Ok x) → SortC c l → SortC c m →
  getC c x (mrg c kl kr f l m) = match getC c x l, getC c x m with
   | none, none => none
   | some a, none => if kl = true then some a else none
   | none, some b => if kr = true then some b else none
   | some a, some b => f a b
 | [], m, _, hm, _, sm => by
  rw [mrg_nil_l]
  have e0 : getC c x [] = none := rfl
  rw [e0]
  cases kr
  ·rw [if_neg (by decide)]; cases h : getC c x m <;> rfl
  ·rw [if_pos rfl]; cases h : getC c x m <;> simp
 | a :: l, [], hl, _, sl, _ => by
  rw [mrg_nil_r]
  have e0 : getC c x [] = none := rfl
  rw [e0]
  cases kl
  ·rw [if_neg (by decide)]; cases h : getC c x (a :: l) <;> rfl
  ·rw [if_pos rfl]; cases h : getC c x (a :: l) <;> simp
 | a :: l, b :: m, hl, hm, sl, sm => by
  have ha := hl a (by simp)
  have hb := hm b (by simp)
  have hl' : ∀ x ∈ l, Ok x := fun x hx => hl x (by simp [hx])
  have hm' : ∀ x ∈ m, Ok x := fun x hx => hm x (by simp [hx])
  obtain ⟨l1, l2⟩ := List.pairwise_cons.1 sl
  obtain ⟨m1, m2⟩ := List.pairwise_cons.1 sm
  rw [mrg_cons]
  split
  ·rename_i h
   have ih := getC_mrg (kl := kl) (kr := kr) hf hx hl' hm l2 sm
   have hbx : c a x = 0 → getC c x (b :: m) = none := fun h0 => getC_lt O ha hx hm (fun y hy => by
    rcases List.mem_cons.1 hy with rfl | hy
    ·exact h
    ·exact O.lt_trans ha hb (hm' y hy) h (m1 y hy)) h0
   by_cases h0 : c a x = 0
   ·rw [hbx h0, getC_lt O ha hx hl' l1 h0] at ih
    rw [hbx h0, show getC c x (a :: l) = some a by rw [getC, if_pos h0]]
    cases kl
    ·rw [if_neg (by decide), ih]; rfl
    ·rw [if_pos rfl, getC, if_pos h0]; rfl
   ·rw [show getC c x (a :: l) = getC c x l by rw [getC, if_neg h0]]
    cases kl
    ·rw [if_neg (by decide), ih]
    ·rw [if_pos rfl, getC, if_neg h0, ih]
  ·rename_i h
   split
   ·rename_i h'
    have ih := getC_mrg (kl := kl) (kr := kr) hf hx hl hm' sl m2
    have hax : c b x = 0 → getC c x (a :: l) = none := fun h0 => getC_lt O hb hx hl (fun y hy => by
     rcases List.mem_cons.1 hy with rfl | hy
     ·exact h'
     ·exact O.lt_trans hb ha (hl' y hy) h' (l1 y hy)) h0
    by_cases h0 : c b x = 0
    ·rw [hax h0, getC_lt O hb hx hm' m1 h0] at ih
     rw [hax h0, show getC c x (b :: m) = some b by rw [getC, if_pos h0]]
     cases kr
     ·rw [if_neg (by decide), ih]; rfl
     ·rw [if_pos rfl, getC, if_pos h0]; rfl
    ·rw [show getC c x (b :: m) = getC c x m by rw [getC, if_neg h0]]
     cases kr
     ·rw [if_neg (by decide), ih]
     ·rw [if_pos rfl, getC, if_neg h0, ih]
   ·rename_i h'
    have hab : c a b = 0 := by have := O.turn ha hb; omega
    have ih := getC_mrg (kl := kl) (kr := kr) hf hx hl' hm' l2 m2
    rw [getC_append, ih]
    by_cases h0 : c a x = 0
    ·have hb0 : c b x = 0 := O.eq_trans hb ha hx (O.eq_turn ha hb hab) h0
     rw [show getC c x (a :: l) = some a by rw [getC, if_pos h0], show getC c x (b :: m) = some b by rw [getC, if_pos hb0], getC_lt O ha hx hl' l1 h0, getC_lt O hb hx hm' m1 hb0]
     cases hfab : f a b with
     | none => simp [getC, hfab]
     | some y =>
      obtain ⟨hy, hay⟩ := hf a b y ha hb hab hfab
      simp [getC, hfab, O.eq_trans hy ha hx (O.eq_turn ha hy hay) h0]
    ·have hb0 : ¬ c b x = 0 := fun e => h0 (O.eq_trans ha hb hx hab e)
     rw [show getC c x (a :: l) = getC c x l by rw [getC, if_neg h0], show getC c x (b :: m) = getC c x m by rw [getC, if_neg hb0]]
     have : getC c x (f a b).toList = none := by
      cases hfab : f a b with
      | none => rfl
      | some y =>
       obtain ⟨hy, hay⟩ := hf a b y ha hb hab hfab
       rw [Option.toList_some, getC, if_neg fun e => h0 (O.eq_trans ha hy hx hay e)]
       rfl
     rw [this]
termination_by l m => l.length + m.length
end

theorem empK_iff {ks : List (E × St)} : St.emp.empK ks = true ↔ ∀ k ∈ ks, k.2.emp = true := by
 induction ks with
 | nil => simp [St.emp.empK]
 | cons k ks ih =>
  obtain ⟨e, s⟩ := k
  rw [St.emp.empK, Bool.and_eq_true, ih]
  simp
theorem emp_mk {m : List E} {ks : List (E × St)} : (St.mk m ks).emp = true ↔ m = [] ∧ ∀ k ∈ ks, k.2.emp = true := by
 rw [St.emp, Bool.and_eq_true, empK_iff, List.isEmpty_iff]
theorem emp_paths : ∀ {s : St}, s.emp = true ↔ s.paths = []
 | .mk m ks => by
  have ih : ∀ k ∈ ks, (k.2.emp = true ↔ k.2.paths = []) := fun k hk => emp_paths
  rw [emp_mk]
  constructor
  ·rintro ⟨rfl, h⟩
   refine List.eq_nil_iff_forall_not_mem.2 fun p hp => ?_
   rcases paths_mem.1 hp with ⟨e, he, -⟩ | ⟨k, hk, q, hq, -⟩
   ·simp [St.mem] at he
   ·rw [(ih k hk).1 (h k hk)] at hq; cases hq
  ·intro h
   refine ⟨List.eq_nil_iff_forall_not_mem.2 fun e he => ?_, fun k hk => (ih k hk).2 (List.eq_nil_iff_forall_not_mem.2 fun q hq => ?_)⟩
   ·have : [e] ∈ (St.mk m ks).paths := paths_mem.2 (.inl ⟨e, he, rfl⟩)
    rw [h] at this; cases this
   ·have : (k.1 :: q) ∈ (St.mk m ks).paths := paths_mem.2 (.inr ⟨k, hk, q, hq, rfl⟩)
    rw [h] at this; cases this
termination_by s => s
decreasing_by
 obtain ⟨e, t⟩ := k
 have := List.sizeOf_lt_of_mem hk
 simp at this ⊢
 omega

structure SOp where
 kl : Bool
 kr : Bool
 kb : Bool
 sec : Bool
 ke : Bool
def SOp.un : SOp := ⟨true, true, true, true, true⟩
def SOp.el (o : SOp) (a b : E) : Option E := if o.kb = true then some (if o.sec = true then b else a) else none
def SOp.kid (o : SOp) (u : St → St → St) (a b : E × St) : Option (E × St) := if o.ke = false ∧ (u a.2 b.2).emp = true then none else some (a.1, u a.2 b.2)
def SOp.ap (o : SOp) : Nat → St → St → St
 | 0, _, _ => St.empty
 | n + 1, s, t => .mk (mrg E.cmp o.kl o.kr o.el s.mem t.mem) (mrg kcmp o.kl o.kr (o.kid (o.ap n)) s.kids t.kids)

theorem kcmp_ord : TOrd kcmp (fun k : E × St => k.1.Ok) := ⟨fun h => E.cmp_self h, fun h k => E.cmp_turn h k, fun h k l => E.cmp_tr h k l⟩
theorem el_ok {o : SOp} {a b x : E} (ha : a.Ok) (hb : b.Ok) (h : E.cmp a b = 0) (e : o.el a b = some x) : x.Ok ∧ E.cmp a x = 0 := by
 unfold SOp.el at e
 split at e
 ·split at e
  ·cases e; exact ⟨hb, h⟩
  ·cases e; exact ⟨ha, E.cmp_self ha⟩
 ·cases e
theorem kid_ok {o : SOp} {u : St → St → St} {a b x : E × St} (ha : a.1.Ok) (hb : b.1.Ok) (h : kcmp a b = 0) (e : o.kid u a b = some x) : x.1.Ok ∧ kcmp a x = 0 := by
 unfold SOp.kid at e
 split at e
 ·cases e
 ·cases e; exact ⟨ha, E.cmp_self ha⟩
theorem kid_eq {o : SOp} {u : St → St → St} {a b x : E × St} (e : o.kid u a b = some x) : x = (a.1, u a.2 b.2) := by
 unfold SOp.kid at e
 split at e
 ·cases e
 ·cases e; rfl
theorem ap_wf {o : SOp} : ∀ {n : Nat} {s t : St}, s.WF → t.WF → (o.ap n s t).WF
 | 0, _, _, _, _ => .empty_
 | n + 1, .mk m ks, .mk m' ks', hs, ht => by
  cases hs with
  | mk h1 h2 h3 h4 h5 =>
  cases ht with
  | mk i1 i2 i3 i4 i5 =>
  obtain ⟨a1, a2, -⟩ := mrg_sorted E.ord_ (kl := o.kl) (kr := o.kr) (f := o.el) (fun a b x ha hb h e => el_ok ha hb h e) h1 i1 h2 i2
  obtain ⟨b1, b2, -⟩ := mrg_sorted kcmp_ord (kl := o.kl) (kr := o.kr) (f := o.kid (o.ap n)) (fun a b x ha hb h e => kid_ok ha hb h e) h3 i3 h4 i4
  refine .mk a2 a1 b2 b1 fun k hk => ?_
  rcases mrg_mem hk with h | h | ⟨a, ha, b, hb, -, -, e⟩
  ·exact h5 k h
  ·exact i5 k h
  ·rw [kid_eq e]; exact ap_wf (h5 a ha) (i5 b hb)

theorem findK_get {e : E} {s : St} {ks : List (E × St)} : findK e ks = (getC kcmp (e, s) ks).map Prod.snd := by
 induction ks with
 | nil => rfl
 | cons k ks ih =>
  rw [findK, getC, show kcmp k (e, s) = E.cmp k.1 e from rfl]
  split
  ·rfl
  ·exact ih
theorem has_emp {s : St} (h : s.emp = true) (x : List E) : ¬ s.Has x := by
 rintro ⟨p, hp, -⟩
 rw [emp_paths.1 h] at hp
 cases hp
def SOp.says (o : SOp) (p q : Prop) : Prop := (p ∧ ¬ q ∧ o.kl = true) ∨ (¬ p ∧ q ∧ o.kr = true) ∨ (p ∧ q ∧ o.kb = true)
theorem says_ff {o : SOp} {p q : Prop} (hp : ¬ p) (hq : ¬ q) : ¬ o.says p q := by
 rintro (⟨h, -⟩ | ⟨-, h, -⟩ | ⟨h, -⟩)
 ·exact hp h
 ·exact hq h
 ·exact hp h

theorem has_ap {o : SOp} : ∀ {n : Nat} {s t : St}, s.WF → t.WF → (∀ p ∈ s.paths, p.length ≤ n) → (∀ p ∈ t.paths, p.length ≤ n) → ∀ {x : List E}, POk x → ((o.ap n s t).Has x ↔ o.says (s.Has x) (t.Has x))
 | 0, s, t, hs, ht, h1, h2, x, hx => by
  have e1 : ∀ {u : St}, u.WF → (∀ p ∈ u.paths, p.length ≤ 0) → ¬ u.Has x := fun hu h => by
   rintro ⟨p, hp, -⟩
   have := h p hp
   exact (paths_ok hu p hp).2 (List.eq_nil_of_length_eq_zero (by omega))
  constructor
  ·exact fun h => absurd h (has_empty x)
  ·exact fun h => absurd h (says_ff (e1 hs h1) (e1 ht h2))
 | n + 1, s, t, hs, ht, h1, h2, [], hx => by
  have hw := ap_wf (o := o) (n := n + 1) hs ht
  exact ⟨fun h => absurd h (has_nil hw), fun h => absurd h (says_ff (has_nil hs) (has_nil ht))⟩
 | n + 1, s, t, hs, ht, l1, l2, [e], hx => by
  have hw := ap_wf (o := o) (n := n + 1) hs ht
  rw [has_one hw, has_one hs, has_one ht]
  have he := hx e (by simp)
  cases hs with
  | @mk m ks h1 h2 h3 h4 h5 =>
  cases ht with
  | @mk m' ks' i1 i2 i3 i4 i5 =>
  show HasC E.cmp (mrg E.cmp o.kl o.kr o.el m m') e ↔ o.says (HasC E.cmp m e) (HasC E.cmp m' e)
  rw [hasC_get, hasC_get, hasC_get, getC_mrg E.ord_ (kl := o.kl) (kr := o.kr) (f := o.el) (fun a b x ha hb h e => el_ok ha hb h e) he h1 i1 h2 i2]
  unfold SOp.says
  cases getC E.cmp e m <;> cases getC E.cmp e m' <;> simp [SOp.el]
 | n + 1, s, t, hs, ht, l1, l2, e :: y :: x, hx => by
  have hw := ap_wf (o := o) (n := n + 1) hs ht
  have he := hx e (by simp)
  have hx' : POk (y :: x) := fun z hz => hx z (by simp [hz])
  rw [has_cons hw he (by simp), has_cons hs he (by simp), has_cons ht he (by simp)]
  cases hs with
  | @mk m ks h1 h2 h3 h4 h5 =>
  cases ht with
  | @mk m' ks' i1 i2 i3 i4 i5 =>
  show (∃ u, findK e (mrg kcmp o.kl o.kr (o.kid (o.ap n)) ks ks') = some u ∧ u.Has (y :: x)) ↔ o.says (∃ u, findK e ks = some u ∧ u.Has (y :: x)) (∃ u, findK e ks' = some u ∧ u.Has (y :: x))
  have hg := getC_mrg kcmp_ord (kl := o.kl) (kr := o.kr) (f := o.kid (o.ap n)) (fun a b x ha hb h e => kid_ok ha hb h e) (x := (e, St.empty)) he h3 i3 h4 i4
  rw [findK_get (s := St.empty), findK_get (s := St.empty), findK_get (s := St.empty), hg]
  unfold SOp.says
  cases ga : getC kcmp (e, St.empty) ks with
  | none =>
   cases gb : getC kcmp (e, St.empty) ks' with
   | none => simp
   | some b => cases o.kr <;> simp
  | some a =>
   cases gb : getC kcmp (e, St.empty) ks' with
   | none => cases o.kl <;> simp
   | some b =>
    have ha := getC_mem ga
    have hb := getC_mem gb
    have ih := has_ap (o := o) (n := n) (s := a.2) (t := b.2) (h5 a ha.1) (i5 b hb.1)
     (fun p hp => by have := l1 (a.1 :: p) (paths_mem.2 (.inr ⟨a, ha.1, p, hp, rfl⟩)); simpa using this)
     (fun p hp => by have := l2 (b.1 :: p) (paths_mem.2 (.inr ⟨b, hb.1, p, hp, rfl⟩)); simpa using this) hx'
    have hk : (∃ u, Option.map Prod.snd (o.kid (o.ap n) a b) = some u ∧ u.Has (y :: x)) ↔ (o.ap n a.2 b.2).Has (y :: x) := by
     unfold SOp.kid
     split
     ·rename_i h
      exact ⟨fun ⟨u, h1, _⟩ => (by cases h1), fun h1 => absurd h1 (has_emp h.2 _)⟩
     ·simp
    show (∃ u, Option.map Prod.snd (o.kid (o.ap n) a b) = some u ∧ u.Has (y :: x)) ↔ _
    rw [hk, ih]
    unfold SOp.says
    simp
end Go.Proofs.YtbicoknghdgahaaGreat

namespace Go.Proofs.YtbicoknghdgahaaGreat
open Go.RowKit
attribute [local go_sem] run_store_float

theorem Row.drop_at {F : Nat → Prop} {w : World} {size n m rb ro : Nat} {xs : List Value} (h : Row F w size (some ⟨rb, ro, none⟩) n xs) (hm : m ≤ n) : Row F w size (some ⟨rb, ro + m * size, none⟩) (n - m) (xs.drop (m * size)) := by
 refine ⟨by rw [List.length_drop, h.1, Nat.sub_mul], fun hn => ?_⟩
 obtain ⟨b, o, e, hF, hcell⟩ := h.2 (by omega)
 simp only [Option.some.injEq, Addr.mk.injEq, and_true] at e
 obtain ⟨rfl, rfl⟩ := e
 refine ⟨rb, ro + m * size, rfl, hF, fun j u hu => ?_⟩
 rw [List.getElem?_drop] at hu
 rw [Nat.add_assoc]
 exact hcell _ u hu

def Apart (F : Nat → Prop) (w : World) (s : Value) (W : World) (b : Nat) : Prop := (F b ∨ w.heap.size < b) ∧ b < W.heap.size ∧ some b ≠ s.ownBlock

structure Mg {α : Type} (k : Nat) (ty e : TypeId) (Q : (Nat → Prop) → World → α → List Value → Prop) (F : Nat → Prop) (w : World) (ls : List α) (s : Value) (W : World) (us : List Value) : Prop where
 bk : Bk W w.heap.size ty #[s]
 own : W.ownsRow (w.heap.size + 1) e k s ls.length us
 cells : Cells k (Q (Apart F w s W) W) ls us
 below : Below w.heap.size w W

section
variable {α : Type} {k : Nat} {ty e : TypeId} {Q : (Nat → Prop) → World → α → List Value → Prop} {F : Nat → Prop} {w W V W3 : World} {ls add : List α} {s s' : Value} {us news : List Value}

theorem Mg.start (h : Below w.heap.size w W) (hb : Bk W w.heap.size ty #[.slice none 0 0]) : Mg k ty e Q F w ([] : List α) (.slice none 0 0) W [] :=
 ⟨hb, World.ownsRow_nil _ _ _ _, Cells.nil_, h⟩

theorem Apart.below (hb : Below W.heap.size W V) {s : Value} {b : Nat} (h : Apart F w s W b) : Apart F w s V b := ⟨h.1, Nat.lt_of_lt_of_le h.2.1 hb.size, h.2.2⟩

theorem Mg.at_ (qk : ∀ {F : Nat → Prop} {w w' : World} {a : α} {cs : List Value}, Q F w a cs → Keeps F w w' → Q F w' a cs) (qm : ∀ {F G : Nat → Prop} {w : World} {a : α} {cs : List Value}, Q F w a cs → (∀ b, F b → G b) → Q G w a cs)
  (h : Mg k ty e Q F w ls s W us) (hb : Below W.heap.size W V) : Mg k ty e Q F w ls s V us := by
 refine ⟨h.bk.below hb h.bk.lt, ownsRow_below h.own hb (Nat.le_refl _), h.cells.mono fun a cs q => qm (qk q (Keeps.below hb fun b hb => hb.2.1)) fun b hb' => hb'.below hb, ?_⟩
 exact h.below.trans (hb.mono h.below.size)

theorem Mg.step (hF : ∀ b, F b → b < w.heap.size) (qk : ∀ {F : Nat → Prop} {w w' : World} {a : α} {cs : List Value}, Q F w a cs → Keeps F w w' → Q F w' a cs) (qm : ∀ {F G : Nat → Prop} {w : World} {a : α} {cs : List Value}, Q F w a cs → (∀ b, F b → G b) → Q G w a cs)
  (h : Mg k ty e Q F w ls s V us) (hown : W3.ownsRow (w.heap.size + 1) e k s' (ls.length + add.length) (us ++ news)) (hg : V.grownBy W3 s.ownBlock) (hat : s'.ownBlock = s.ownBlock ∨ s'.ownBlock = some V.heap.size)
  (hadd : Cells k (Q (Apart F w s V) V) add news) : Mg k ty e Q F w (ls ++ add) s' (W3.setCell ⟨w.heap.size, 0, none⟩ s') (us ++ news) := by
 have hlo := h.own.lt
 have hol := h.bk.lt
 have hkF : Keeps (Apart F w s V) V (W3.setCell ⟨w.heap.size, 0, none⟩ s') := fun b hb => by
  have hne : b ≠ w.heap.size := by
   rcases hb.1 with h1 | h1
   ·have := hF b h1; omega
   ·omega
  rw [Below.heap_setCell _ _ _ _ (by show b ≠ w.heap.size; exact hne), hg.block b hb.2.1 hb.2.2]
 have hsz : (W3.setCell ⟨w.heap.size, 0, none⟩ s').heap.size = W3.heap.size := (setCell_same _ _ _).2.2.2
 have hsz3 : V.heap.size ≤ W3.heap.size := hg.size
 have hap : ∀ b, Apart F w s V b → Apart F w s' (W3.setCell ⟨w.heap.size, 0, none⟩ s') b := fun b hb => by
  refine ⟨hb.1, by rw [hsz]; exact Nat.lt_of_lt_of_le hb.2.1 hsz3, fun e => ?_⟩
  rcases hat with e' | e'
  ·exact hb.2.2 (by rw [← e']; exact e)
  ·rw [e'] at e; have e3 : b = V.heap.size := Option.some.inj e; have := hb.2.1; omega
 have hbk := (h.bk.grown hg (fun e => by have := (hlo _ e.symm).1; omega)).set_ 0 s'
 refine ⟨by simpa using hbk, ?_, ?_, ?_⟩
 ·rw [List.length_append]
  exact ownsRow_setCell_below hown (show w.heap.size < w.heap.size + 1 by omega) _
 ·exact Cells.append (h.cells.mono fun a cs q => qm (qk q hkF) hap) (hadd.mono fun a cs q => qm (qk q hkF) hap)
 ·refine (h.below.grown hg (by have := h.below.size; omega) fun b e => by have := (hlo b e).1; omega).setCell (Nat.le_refl _) _

theorem Apart.old (hF : ∀ b, F b → b < w.heap.size) (h : Mg k ty e Q F w ls s V us) : ∀ b, F b → Apart F w s V b := fun b hb => by
 have h1 := h.below.size
 have h2 := hF b hb
 exact ⟨.inl hb, by omega, fun e => by have := (h.own.lt b e.symm).1; omega⟩
theorem Apart.new (h : Mg k ty e Q F w ls s V us) (hb : Below V.heap.size V W) : ∀ b, (F b ∨ Fr V.heap.size W b) → (∀ b, F b → b < w.heap.size) → Apart F w s W b := fun b hb' hF => by
 have h1 := h.below.size
 have h3 := h.bk.lt
 have h4 := hb.size
 rcases hb' with h2 | h2
 ·have h5 := hF b h2
  exact ⟨.inl h2, by omega, fun e => by have := (h.own.lt b e.symm).1; omega⟩
 ·have h5 := h2.1
  exact ⟨.inr (by omega), h2.2, fun e => by have := (h.own.lt b e.symm).2; omega⟩
theorem Mg.row {sA : Option Addr} {sc : Nat} (h : Mg k ty e Q F w ls (.slice sA ls.length sc) W us) : Row (fun b => F b ∨ Fr w.heap.size W b) W k sA ls.length us :=
 Row.of_own h.own fun b hb => .inr ⟨by have := (h.own.lt b hb).1; omega, (h.own.lt b hb).2⟩
theorem Apart.wide {b : Nat} (h : Apart F w s W b) : F b ∨ Fr w.heap.size W b := h.1.imp id fun h1 => ⟨by omega, h.2.1⟩
end

theorem KQ.mk_ {F : Nat → Prop} {w : World} {k : E × St} {a b c d : Option Addr} {g : Nat} (h1 : PEAt F w k.1 [.pointer a, .pointer b, .pointer c, .pointer d]) (h2 : SetR F w g k.2) : KQ F w k [.pointer a, .pointer b, .pointer c, .pointer d, .pointer (some ⟨g, 0, none⟩)] :=
 ⟨g, ⟨_, _, _, _, rfl, h1⟩, h2⟩
theorem kq_ones {F : Nat → Prop} {w : World} {l : List (E × St)} {xs : List Value} (h : Cells 5 (KQ F w) l xs) : ∀ u ∈ xs, u.oneCell' = true :=
 h.ones (by decide) fun a cs h => by
  obtain ⟨a, b, c, d, g, rfl, -, -⟩ := h.form
  simp [Value.oneCell']

theorem SetR.of_parts {F : Nat → Prop} {w : World} {g : Nat} {m : List E} {ks : List (E × St)} {MA KA : Option Addr} {mc kc : Nat} {xs ys : List Value}
  (h1 : F g) (h2 : Bk w g 130 #[.slice MA m.length mc, .slice KA ks.length kc]) (h3 : m.length * 32 ≤ R47) (h4 : ks.length * 40 ≤ R47) (h5 : m.length ≤ mc) (h6 : mc ≤ maxLen) (h7 : ks.length ≤ kc) (h8 : kc ≤ maxLen)
  (h9 : Row F w 4 MA m.length xs) (h10 : Row F w 5 KA ks.length ys) (h11 : Cells 4 (PEAt F w) m xs) (h12 : Cells 5 (KQ F w) ks ys) : SetR F w g (.mk m ks) := by
 have hall : ∀ i, i < ks.length → ∃ G, ∀ k, ks[i]? = some k → KidAt F w k.1 G ((ys.drop (i * 5)).take 5) ∧ SetR F w G k.2 := fun i hi => by
  obtain ⟨G, hG⟩ := h12.2 i ks[i] (List.getElem?_eq_getElem hi)
  exact ⟨G, fun k hk => by rw [List.getElem?_eq_getElem hi] at hk; cases hk; exact hG⟩
 obtain ⟨G, hG⟩ := Deep.choose_lt hall
 exact .mk (G := G) h1 h2 h3 h4 h5 h6 h7 h8 h9 h10 h11 (fun i k hk => (hG i (List.getElem?_eq_some_iff.1 hk).1 k hk).1) fun i k hk => (hG i (List.getElem?_eq_some_iff.1 hk).1 k hk).2

set_option maxRecDepth 100000 in
theorem less_calls {e1 e2 : E} {cs1 cs2 : List Value} {w : World} (h1 : PEAt (Old w) w e1 cs1) (h2 : PEAt (Old w) w e2 cs2) : Calls Tryz.prog 187 #[.agg cs1.toArray, .agg cs2.toArray] w (EqPost (decide (E.cmp e1 e2 < 0)) w) := by
 obtain ⟨a0, a1, a2, a3, rfl⟩ := h1.form
 obtain ⟨b0, b1, b2, b3, rfl⟩ := h2.form
 have hb : Below w.heap.size w ((w.alloc (.cells #[.pointer a0, .pointer a1, .pointer a2, .pointer a3] 109)).alloc (.cells #[.pointer b0, .pointer b1, .pointer b2, .pointer b3] 109)) := ((Below.refl _ _).alloc (Nat.le_refl _) _).alloc (by simp) _
 have H := hide (peCompare_calls (h1.at_ hb) (h2.at_ hb))
 have Hb := hide hb
 clear h1 h2 hb
 generalize E.cmp e1 e2 = n at *
 go_enter Tryz.func187, Tryz.ntmps187
 go_wp2_with fail
 refine H.out.mono ?_
 rintro e w1 ⟨rfl, hb1⟩
 have Hb1 := hide (Hb.out.trans (hb1.mono Hb.out.size))
 clear hb1
 go_wp2
 go_ret
 exact ⟨rfl, Hb1.out⟩

def MEInv (kl kr : Bool) (f : E → E → Option E) (F : Nat → Prop) (w : World) (m m' : List E) (s6 s7 : Value) (W : World) : Prop :=
 ∃ (i j : Nat) (done : List E) (s : Value) (us : List Value), s6 = .int .i64 (i : Int) ∧ s7 = .int .i64 (j : Int) ∧ i ≤ m.length ∧ j ≤ m'.length ∧ done.length ≤ i + j ∧ mrg E.cmp kl kr f m m' = done ++ mrg E.cmp kl kr f (m.drop i) (m'.drop j) ∧
  Mg 4 124 109 PEAt F w done s W us

def MES (o g rb ro : Nat) (u v c0 c1 c2 c3 : Value) (W : World) : Prop := W.cell? ⟨o, 0, none⟩ = some u ∧ W.cell? ⟨g, 0, none⟩ = some v ∧ W.cell? ⟨rb, ro, none⟩ = some c0 ∧ W.cell? ⟨rb, ro + 1, none⟩ = some c1 ∧ W.cell? ⟨rb, ro + 2, none⟩ = some c2 ∧ W.cell? ⟨rb, ro + 3, none⟩ = some c3
theorem MES.to {o g rb ro : Nat} {u v c0 c1 c2 c3 : Value} {W W' : World} (h : MES o g rb ro u v c0 c1 c2 c3 W) (ho : ∀ k, W'.cell? ⟨o, k, none⟩ = W.cell? ⟨o, k, none⟩) (hg : ∀ k, W'.cell? ⟨g, k, none⟩ = W.cell? ⟨g, k, none⟩) (hr : ∀ k, W'.cell? ⟨rb, k, none⟩ = W.cell? ⟨rb, k, none⟩) : MES o g rb ro u v c0 c1 c2 c3 W' :=
 ⟨(ho _).trans h.1, (hg _).trans h.2.1, (hr _).trans h.2.2.1, (hr _).trans h.2.2.2.1, (hr _).trans h.2.2.2.2.1, (hr _).trans h.2.2.2.2.2⟩

theorem mrg_drop {α : Type} {c : α → α → Int} {kl kr : Bool} {f : α → α → Option α} {m m' : List α} {i j : Nat} (hi : i < m.length) (hj : j < m'.length) : mrg c kl kr f (m.drop i) (m'.drop j) =
  if c m[i] m'[j] < 0 then (if kl = true then m[i] :: mrg c kl kr f (m.drop (i + 1)) (m'.drop j) else mrg c kl kr f (m.drop (i + 1)) (m'.drop j))
  else if c m'[j] m[i] < 0 then (if kr = true then m'[j] :: mrg c kl kr f (m.drop i) (m'.drop (j + 1)) else mrg c kl kr f (m.drop i) (m'.drop (j + 1)))
  else (f m[i] m'[j]).toList ++ mrg c kl kr f (m.drop (i + 1)) (m'.drop (j + 1)) := by
 have e1 := List.drop_eq_getElem_cons hi
 have e2 := List.drop_eq_getElem_cons hj
 conv => lhs; rw [e1, e2, mrg_cons]
 rw [← e1, ← e2]
theorem mrg_end_l {α : Type} {c : α → α → Int} {kl kr : Bool} {f : α → α → Option α} {m m' : List α} {i j : Nat} (hi : m.length ≤ i) : mrg c kl kr f (m.drop i) (m'.drop j) = if kr = true then m'.drop j else [] := by
 rw [List.drop_eq_nil_of_le hi, mrg_nil_l]
theorem mrg_end_r {α : Type} {c : α → α → Int} {kl kr : Bool} {f : α → α → Option α} {m m' : List α} {i j : Nat} (hj : m'.length ≤ j) : mrg c kl kr f (m.drop i) (m'.drop j) = if kl = true then m.drop i else [] := by
 rw [List.drop_eq_nil_of_le hj, mrg_nil_r]

theorem node_info : (Tryz.prog.info? 214).map (fun i => (i.zero, i.size, i.bytes)) = some (some (.agg #[.pointer none, .pointer none, .pointer none, .pointer none, .pointer none]), 5, 40) := by kernel_rfl

def GivesF (F : Nat → Prop) (t : St) (w : World) (en : Ending) (w' : World) : Prop := ∃ g, en = .returned (.pointer (some ⟨g, 0, none⟩)) ∧ SetR (fun b => F b ∨ Fr w.heap.size w' b) w' g t ∧ Below w.heap.size w w'

def MKInv (kl kr : Bool) (f : E × St → E × St → Option (E × St)) (F : Nat → Prop) (w : World) (m m' : List (E × St)) (s6 s7 : Value) (W : World) : Prop :=
 ∃ (i j : Nat) (done : List (E × St)) (s : Value) (us : List Value), s6 = .int .i64 (i : Int) ∧ s7 = .int .i64 (j : Int) ∧ i ≤ m.length ∧ j ≤ m'.length ∧ done.length ≤ i + j ∧ mrg kcmp kl kr f m m' = done ++ mrg kcmp kl kr f (m.drop i) (m'.drop j) ∧
  Mg 5 128 214 KQ F w done s W us

def MKS (o g g' rb ro sb so : Nat) (u v v' c0 c1 c2 c3 c4 d0 d1 d2 d3 d4 : Value) (W : World) : Prop := (W.cell? ⟨o, 0, none⟩ = some u ∧ W.cell? ⟨g, 1, none⟩ = some v ∧ W.cell? ⟨g', 1, none⟩ = some v') ∧
 (W.cell? ⟨rb, ro, none⟩ = some c0 ∧ W.cell? ⟨rb, ro + 1, none⟩ = some c1 ∧ W.cell? ⟨rb, ro + 2, none⟩ = some c2 ∧ W.cell? ⟨rb, ro + 3, none⟩ = some c3 ∧ W.cell? ⟨rb, ro + 4, none⟩ = some c4) ∧
 (W.cell? ⟨sb, so, none⟩ = some d0 ∧ W.cell? ⟨sb, so + 1, none⟩ = some d1 ∧ W.cell? ⟨sb, so + 2, none⟩ = some d2 ∧ W.cell? ⟨sb, so + 3, none⟩ = some d3 ∧ W.cell? ⟨sb, so + 4, none⟩ = some d4)
theorem MKS.to {o g g' rb ro sb so : Nat} {u v v' c0 c1 c2 c3 c4 d0 d1 d2 d3 d4 : Value} {W W' : World} (h : MKS o g g' rb ro sb so u v v' c0 c1 c2 c3 c4 d0 d1 d2 d3 d4 W) (hlt : g < o ∧ g' < o ∧ rb < o ∧ sb < o) (hc : ∀ b k, b ≤ o → W'.cell? ⟨b, k, none⟩ = W.cell? ⟨b, k, none⟩) : MKS o g g' rb ro sb so u v v' c0 c1 c2 c3 c4 d0 d1 d2 d3 d4 W' := by
 obtain ⟨⟨a1, a2, a3⟩, ⟨b1, b2, b3, b4, b5⟩, e1, e2, e3, e4, e5⟩ := h
 obtain ⟨h1, h2, h3, h4⟩ := hlt
 exact ⟨⟨(hc _ _ (Nat.le_refl _)).trans a1, (hc _ _ (by omega)).trans a2, (hc _ _ (by omega)).trans a3⟩, ⟨(hc _ _ (by omega)).trans b1, (hc _ _ (by omega)).trans b2, (hc _ _ (by omega)).trans b3, (hc _ _ (by omega)).trans b4, (hc _ _ (by omega)).trans b5⟩,
  (hc _ _ (by omega)).trans e1, (hc _ _ (by omega)).trans e2, (hc _ _ (by omega)).trans e3, (hc _ _ (by omega)).trans e4, (hc _ _ (by omega)).trans e5⟩

end Go.Proofs.YtbicoknghdgahaaGreat
