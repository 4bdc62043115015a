/- Parts: SetP. -/
import Derived.Test.YtbicoknghdgahaaGreatKB08
set_option linter.unusedVariables false
set_option linter.unusedSimpArgs false
namespace Go.Proofs.YtbicoknghdgahaaGreat

theorem ecmp_self (p : List E) : ecmp p p = 0 := if_pos rfl
theorem wcmp_self : ∀ {p : List E}, POk p → wcmp p p = 0
 | [], _ => rfl
 | a :: p, h => by rw [wcmp, ecmp_self, if_pos rfl, E.cmp_self (h a (by simp)), if_pos rfl]; exact wcmp_self fun e he => h e (by simp [he])
theorem wcmp_zero : ∀ (p q : List E), wcmp p q = 0 ↔ pcmp p q = 0
 | [], [] => by simp [wcmp, pcmp]
 | [], _ :: _ => by simp [wcmp, pcmp]
 | _ :: _, [] => by simp [wcmp, pcmp]
 | a :: p, b :: q => by
  have ih := wcmp_zero p q
  rw [wcmp, pcmp]
  by_cases h : E.cmp a b = 0
  ·rw [if_pos h, if_pos h]
   by_cases h0 : ecmp p q = 0
   ·rw [if_pos h0]; exact ih
   ·rw [if_neg h0]
    refine ⟨fun e => absurd e h0, fun e => ?_⟩
    cases p <;> cases q <;> simp [ecmp, pcmp] at h0 e
  ·rw [if_neg h, if_neg h]
   by_cases h0 : ecmp p q = 0
   ·rw [if_pos h0]
   ·rw [if_neg h0]
    exact ⟨fun e => absurd e h0, fun e => absurd e h⟩
theorem wcmp_len : ∀ {p q : List E}, wcmp p q = 0 → p.length = q.length
 | [], [], _ => rfl
 | [], _ :: _, h => by simp [wcmp] at h
 | _ :: _, [], h => by simp [wcmp] at h
 | a :: p, b :: q, h => by
  have h := (wcmp_zero _ _).1 h
  rw [pcmp] at h
  split at h
  ·simp [wcmp_len ((wcmp_zero p q).2 h)]
  ·contradiction
theorem wcmp_cons {a b : E} {p q : List E} : wcmp (a :: p) (b :: q) = 0 ↔ E.cmp a b = 0 ∧ wcmp p q = 0 := by
 rw [wcmp_zero, wcmp_zero, pcmp]
 by_cases h : E.cmp a b = 0 <;> simp [h]

def kcmp (p q : E × St) : Int := E.cmp p.1 q.1
inductive St.WF : St → Prop
 | mk {m : List E} {ks : List (E × St)} : POk m → SortC E.cmp m → (∀ k ∈ ks, k.1.Ok) → SortC kcmp ks → (∀ k ∈ ks, St.WF k.2) → St.WF (.mk m ks)
theorem St.WF.empty_ : St.empty.WF := .mk (by simp [POk]) List.Pairwise.nil (by simp) List.Pairwise.nil (by simp)

theorem pathsK_mem {ks : List (E × St)} {p : List E} : p ∈ St.pathsK ks ↔ ∃ k ∈ ks, ∃ q ∈ k.2.paths, p = k.1 :: q := by
 induction ks with
 | nil => simp [St.pathsK]
 | cons k ks ih =>
  obtain ⟨e, s⟩ := k
  rw [St.pathsK, List.mem_append, ih, List.mem_map]
  constructor
  ·rintro (⟨q, h, rfl⟩ | ⟨k, h1, h2⟩)
   ·exact ⟨(e, s), by simp, q, h, rfl⟩
   ·exact ⟨k, by simp [h1], h2⟩
  ·rintro ⟨k, h1, q, h2, rfl⟩
   rcases List.mem_cons.1 h1 with rfl | h1
   ·exact .inl ⟨q, h2, rfl⟩
   ·exact .inr ⟨k, h1, q, h2, rfl⟩
theorem paths_mem {s : St} {p : List E} : p ∈ s.paths ↔ (∃ e ∈ s.mem, p = [e]) ∨ ∃ k ∈ s.kids, ∃ q ∈ k.2.paths, p = k.1 :: q := by
 cases s with
 | mk m ks =>
  rw [St.paths, List.mem_append, pathsK_mem, List.mem_map]
  simp only [St.mem, St.kids]
  constructor
  ·rintro (⟨e, h, rfl⟩ | h)
   ·exact .inl ⟨e, h, rfl⟩
   ·exact .inr h
  ·rintro (⟨e, h, rfl⟩ | h)
   ·exact .inl ⟨e, h, rfl⟩
   ·exact .inr h
theorem kid_lt {s : St} {k : E × St} (h : k ∈ s.kids) : SizeOf.sizeOf k.2 < SizeOf.sizeOf s := by
 cases s with
 | mk m ks =>
  have h : k ∈ ks := h
  have := List.sizeOf_lt_of_mem h
  obtain ⟨e, t⟩ := k
  simp at this ⊢
  omega
theorem paths_ok {s : St} (h : s.WF) : ∀ p ∈ s.paths, POk p ∧ p ≠ [] := by
 induction h with
 | @mk m ks h1 h2 h3 h4 h5 ih =>
  intro p hp
  rcases paths_mem.1 hp with ⟨e, he, rfl⟩ | ⟨k, hk, q, hq, rfl⟩
  ·exact ⟨fun x hx => by rw [List.mem_singleton.1 hx]; exact h1 e he, by simp⟩
  ·refine ⟨fun x hx => ?_, by simp⟩
   rcases List.mem_cons.1 hx with rfl | hx
   ·exact h3 k hk
   ·exact (ih k hk q hq).1 x hx
theorem paths_pok {s : St} (h : s.WF) : ∀ p ∈ s.paths, POk p := fun p hp => (paths_ok h p hp).1
theorem has_nil {s : St} (h : s.WF) : ¬ s.Has [] := by
 rintro ⟨a, ha, e⟩
 have := wcmp_len e
 exact (paths_ok h a ha).2 (List.eq_nil_of_length_eq_zero this)
theorem has_one {s : St} (h : s.WF) {e : E} : s.Has [e] ↔ HasC E.cmp s.mem e := by
 unfold St.Has HasC
 constructor
 ·rintro ⟨p, hp, he⟩
  rcases paths_mem.1 hp with ⟨x, hx, rfl⟩ | ⟨k, hk, q, hq, rfl⟩
  ·exact ⟨x, hx, (wcmp_cons.1 he).1⟩
  ·have := wcmp_len he
   cases h with
   | mk _ _ _ _ h5 => exact absurd (List.eq_nil_of_length_eq_zero (by simpa using this)) (paths_ok (h5 k hk) q hq).2
 ·rintro ⟨x, hx, he⟩
  exact ⟨[x], paths_mem.2 (.inl ⟨x, hx, rfl⟩), wcmp_cons.2 ⟨he, rfl⟩⟩
def findK (e : E) : List (E × St) → Option St
 | [] => none
 | k :: r => if E.cmp k.1 e = 0 then some k.2 else findK e r
theorem findK_mem {e : E} {ks : List (E × St)} {t : St} (h : findK e ks = some t) : ∃ k ∈ ks, E.cmp k.1 e = 0 ∧ k.2 = t := by
 induction ks with
 | nil => cases h
 | cons k ks ih =>
  rw [findK] at h
  split at h
  ·exact ⟨k, by simp, by assumption, Option.some.inj h⟩
  ·obtain ⟨k', h1, h2⟩ := ih h
   exact ⟨k', by simp [h1], h2⟩
theorem findK_of {e : E} {ks : List (E × St)} (he : e.Ok) (hk : ∀ k ∈ ks, k.1.Ok) (hs : SortC kcmp ks) {k : E × St} (h : k ∈ ks) (h0 : E.cmp k.1 e = 0) : findK e ks = some k.2 := by
 induction ks with
 | nil => cases h
 | cons x ks ih =>
  obtain ⟨h1, h2⟩ := List.pairwise_cons.1 hs
  rw [findK]
  rcases List.mem_cons.1 h with rfl | h
  ·rw [if_pos h0]
  ·have hlt : E.cmp x.1 k.1 < 0 := h1 k h
   have : E.cmp x.1 e < 0 := E.ord_.lt_le (hk x (by simp)) (hk k (by simp [h])) he hlt (by omega)
   rw [if_neg (by omega)]
   exact ih (fun k hk' => hk k (by simp [hk'])) h2 h
theorem has_cons {s : St} (h : s.WF) {e : E} (he : e.Ok) {p : List E} (hp : p ≠ []) : s.Has (e :: p) ↔ ∃ t, findK e s.kids = some t ∧ t.Has p := by
 cases h with
 | @mk m ks h1 h2 h3 h4 h5 =>
  unfold St.Has
  constructor
  ·rintro ⟨q, hq, e0⟩
   rcases paths_mem.1 hq with ⟨x, hx, rfl⟩ | ⟨k, hk, r, hr, rfl⟩
   ·have := wcmp_len e0
    exact absurd (List.eq_nil_of_length_eq_zero (by simpa using this.symm)) hp
   ·obtain ⟨h6, h7⟩ := wcmp_cons.1 e0
    exact ⟨k.2, findK_of he h3 h4 hk h6, r, hr, h7⟩
  ·rintro ⟨t, ht, r, hr, h7⟩
   obtain ⟨k, hk, h6, rfl⟩ := findK_mem ht
   exact ⟨k.1 :: r, paths_mem.2 (.inr ⟨k, hk, r, hr, rfl⟩), wcmp_cons.2 ⟨h6, h7⟩⟩

theorem mem_insK {e : E} {f : St → St} {ks : List (E × St)} {k : E × St} (h : k ∈ insK e f ks) : (k = (e, f St.empty)) ∨ (∃ k' ∈ ks, k = (k'.1, f k'.2)) ∨ k ∈ ks := by
 induction ks with
 | nil => simp [insK] at h; exact .inl h
 | cons a ks ih =>
  rw [insK] at h
  split at h
  ·rcases List.mem_cons.1 h with h | h
   ·exact .inr (.inr (by simp [h]))
   ·rcases ih h with h | ⟨k', h1, h2⟩ | h
    ·exact .inl h
    ·exact .inr (.inl ⟨k', by simp [h1], h2⟩)
    ·exact .inr (.inr (by simp [h]))
  ·split at h
   ·rcases List.mem_cons.1 h with h | h
    ·exact .inr (.inl ⟨a, by simp, h⟩)
    ·exact .inr (.inr (by simp [h]))
   ·rcases List.mem_cons.1 h with h | h
    ·exact .inl h
    ·exact .inr (.inr h)
theorem insK_keys {e : E} {f : St → St} {ks : List (E × St)} (he : e.Ok) (hk : ∀ k ∈ ks, k.1.Ok) : ∀ k ∈ insK e f ks, k.1.Ok := fun k h => by
 rcases mem_insK h with rfl | ⟨k', h1, rfl⟩ | h
 ·exact he
 ·exact hk k' h1
 ·exact hk k h
theorem insK_sorted {e : E} {f : St → St} {ks : List (E × St)} (he : e.Ok) (hk : ∀ k ∈ ks, k.1.Ok) (hs : SortC kcmp ks) : SortC kcmp (insK e f ks) := by
 induction ks with
 | nil => simp [insK, SortC]
 | cons a ks ih =>
  obtain ⟨h1, h2⟩ := List.pairwise_cons.1 hs
  have ha := hk a (by simp)
  have hk' : ∀ k ∈ ks, k.1.Ok := fun k hk' => hk k (by simp [hk'])
  rw [insK]
  split
  ·rename_i h
   refine List.pairwise_cons.2 ⟨fun x hx => ?_, ih hk' h2⟩
   rcases mem_insK hx with rfl | ⟨k', h3, rfl⟩ | hx
   ·exact h
   ·exact h1 k' h3
   ·exact h1 x hx
  ·rename_i h
   split
   ·exact List.pairwise_cons.2 ⟨fun x hx => h1 x hx, h2⟩
   ·rename_i h3
    have hlt : E.cmp e a.1 < 0 := E.ord_.gt ha he h h3
    refine List.pairwise_cons.2 ⟨fun x hx => ?_, hs⟩
    rcases List.mem_cons.1 hx with rfl | hx
    ·exact hlt
    ·exact E.ord_.lt_trans he ha (hk' x hx) hlt (h1 x hx)
theorem findK_insK {e x : E} {f : St → St} {ks : List (E × St)} (he : e.Ok) (hx : x.Ok) (hk : ∀ k ∈ ks, k.1.Ok) (hs : SortC kcmp ks) :
  findK x (insK e f ks) = if E.cmp e x = 0 then some (f ((findK e ks).getD St.empty)) else findK x ks := by
 induction ks with
 | nil => simp [insK, findK]
 | cons a ks ih =>
  obtain ⟨h1, h2⟩ := List.pairwise_cons.1 hs
  have ha := hk a (by simp)
  have hk' : ∀ k ∈ ks, k.1.Ok := fun k hk' => hk k (by simp [hk'])
  have ih := ih hk' h2
  rw [insK]
  by_cases h : E.cmp a.1 e < 0
  ·rw [if_pos h, findK, ih, findK, findK, if_neg (show ¬ E.cmp a.1 e = 0 by omega)]
   by_cases hex : E.cmp e x = 0
   ·have : E.cmp a.1 x < 0 := E.ord_.lt_le ha he hx h (by omega)
    rw [if_pos hex, if_neg (by omega), if_pos hex]
   ·rw [if_neg hex, if_neg hex]
  ·rw [if_neg h]
   by_cases h0 : E.cmp a.1 e = 0
   ·rw [if_pos h0, findK, findK, findK, if_pos h0]
    by_cases hex : E.cmp e x = 0
    ·rw [if_pos (show E.cmp a.1 x = 0 from E.ord_.eq_trans ha he hx h0 hex), if_pos hex]
     rfl
    ·have : ¬ E.cmp a.1 x = 0 := fun h => hex (E.ord_.eq_trans he ha hx (E.ord_.eq_turn ha he h0) h)
     simp only [if_neg hex, if_neg this]
   ·rw [if_neg h0, findK, findK, findK, if_neg h0]
    have hlt : E.cmp e a.1 < 0 := E.ord_.gt ha he h h0
    have hnone : findK e ks = none := by
     cases hf : findK e ks with
     | none => rfl
     | some t =>
      obtain ⟨k, hk1, hk2, -⟩ := findK_mem hf
      have h3 : E.cmp a.1 k.1 < 0 := h1 k hk1
      have := E.ord_.lt_le ha (hk' k hk1) he h3 (by omega)
      omega
    rw [hnone]
    rfl
theorem ins_wf : ∀ {p : List E} {s : St}, s.WF → POk p → (St.ins p s).WF
 | [], s, h, _ => h
 | [e], s, h, hp => by
  cases h with
  | @mk m ks h1 h2 h3 h4 h5 => exact .mk (insC_ok (hp e (by simp)) h1) (insC_sorted E.ord_ (hp e (by simp)) h1 h2) h3 h4 h5
 | e :: x :: p, s, h, hp => by
  cases h with
  | @mk m ks h1 h2 h3 h4 h5 =>
   have hp' : POk (x :: p) := fun y hy => hp y (by simp [hy])
   refine .mk h1 h2 (insK_keys (hp e (by simp)) h3) (insK_sorted (hp e (by simp)) h3 h4) fun k hk => ?_
   rcases mem_insK hk with rfl | ⟨k', h6, rfl⟩ | hk
   ·exact ins_wf .empty_ hp'
   ·exact ins_wf (h5 k' h6) hp'
   ·exact h5 k hk
theorem has_empty (p : List E) : ¬ St.empty.Has p := by
 rintro ⟨a, ha, -⟩
 simp [St.empty, St.paths, St.pathsK] at ha
theorem has_ins : ∀ {p : List E} {s : St}, s.WF → POk p → p ≠ [] → ∀ {x : List E}, POk x → ((St.ins p s).Has x ↔ wcmp p x = 0 ∨ s.Has x)
 | [], _, _, _, h, _, _ => absurd rfl h
 | [e], s, h, hp, _, x, hx => by
  have hw := ins_wf h hp
  cases x with
  | nil =>
   constructor
   ·exact fun h => absurd h (has_nil hw)
   ·rintro (h1 | h1)
    ·simp [wcmp] at h1
    ·exact absurd h1 (has_nil h)
  | cons a x =>
   cases x with
   | nil =>
    rw [has_one hw, has_one h, wcmp_cons]
    cases h with
    | @mk m ks h1 h2 h3 h4 h5 =>
     refine (HasC_insC E.ord_ (hp e (by simp)) (hx a (by simp)) h1).trans ?_
     simp [wcmp, St.mem]
   | cons b x =>
    rw [has_cons hw (hx a (by simp)) (by simp), has_cons h (hx a (by simp)) (by simp), wcmp_cons]
    cases h with
    | @mk m ks h1 h2 h3 h4 h5 =>
     constructor
     ·exact fun h => .inr h
     ·rintro (⟨_, h⟩ | h)
      ·simp [wcmp] at h
      ·exact h
 | e :: y :: p, s, h, hp, _, x, hx => by
  have hw := ins_wf h hp
  have hp' : POk (y :: p) := fun z hz => hp z (by simp [hz])
  have he := hp e (by simp)
  cases x with
  | nil =>
   constructor
   ·exact fun h => absurd h (has_nil hw)
   ·rintro (h1 | h1)
    ·simp [wcmp] at h1
    ·exact absurd h1 (has_nil h)
  | cons a x =>
   have ha := hx a (by simp)
   cases x with
   | nil =>
    rw [has_one hw, has_one h, wcmp_cons]
    cases h with
    | @mk m ks h1 h2 h3 h4 h5 =>
     constructor
     ·exact fun h => .inr h
     ·rintro (⟨_, h⟩ | h)
      ·simp [wcmp] at h
      ·exact h
   | cons b x =>
    have hx' : POk (b :: x) := fun z hz => hx z (by simp [hz])
    rw [has_cons hw ha (by simp), has_cons h ha (by simp), wcmp_cons]
    cases h with
    | @mk m ks h1 h2 h3 h4 h5 =>
     simp only [St.ins, St.kids]
     rw [findK_insK he ha h3 h4]
     by_cases hea : E.cmp e a = 0
     ·rw [if_pos hea]
      have hwf : ((findK e ks).getD St.empty).WF := by
       cases hf : findK e ks with
       | none => exact .empty_
       | some t =>
        obtain ⟨k, hk, -, rfl⟩ := findK_mem hf
        exact h5 k hk
      have hfa : findK a ks = findK e ks := by
       cases hf : findK e ks with
       | none =>
        cases hg : findK a ks with
        | none => rfl
        | some t =>
         obtain ⟨k, hk, h6, -⟩ := findK_mem hg
         rw [findK_of he h3 h4 hk (E.ord_.eq_trans (h3 k hk) ha he h6 (E.ord_.eq_turn he ha hea))] at hf
         cases hf
       | some t =>
        obtain ⟨k, hk, h6, rfl⟩ := findK_mem hf
        exact findK_of ha h3 h4 hk (E.ord_.eq_trans (h3 k hk) he ha h6 hea)
      have ih := has_ins hwf hp' (by simp) hx'
      constructor
      ·rintro ⟨t, h6, h7⟩
       cases h6
       rcases ih.1 h7 with h8 | h8
       ·exact .inl ⟨hea, h8⟩
       ·rw [hfa]
        cases hf : findK e ks with
        | none => rw [hf] at h8; exact absurd h8 (has_empty _)
        | some t => rw [hf] at h8; exact .inr ⟨t, rfl, h8⟩
      ·rintro (⟨-, h8⟩ | ⟨t, h6, h7⟩)
       ·exact ⟨_, rfl, ih.2 (.inl h8)⟩
       ·rw [hfa] at h6
        refine ⟨_, rfl, ih.2 (.inr ?_)⟩
        rw [h6]
        exact h7
     ·rw [if_neg hea]
      constructor
      ·exact fun h => .inr h
      ·rintro (⟨h, -⟩ | h)
       ·exact absurd h hea
       ·exact h

end Go.Proofs.YtbicoknghdgahaaGreat
