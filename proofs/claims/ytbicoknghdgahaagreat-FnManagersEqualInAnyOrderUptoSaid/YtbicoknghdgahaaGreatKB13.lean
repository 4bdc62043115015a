/- Parts: SetMk. -/
import Derived.Test.YtbicoknghdgahaaGreatKB09
import Derived.Test.YtbicoknghdgahaaGreatKB11
import Derived.Test.YtbicoknghdgahaaGreatKB12
set_option linter.unusedVariables false
set_option linter.unusedSimpArgs false
namespace Go.Proofs.YtbicoknghdgahaaGreat
open Go.RowKit

theorem laid_at {k i n : Nat} {vs xs : List Value} (hk : 0 < k) (hx : xs.length = n * k) (hv : vs.length = k) (hi : i ≤ n) (j : Nat) (hj : j ≤ n) :
  ((laid k i vs xs).drop (j * k)).take k = if j < i then (xs.drop (j * k)).take k else if j = i then vs else (xs.drop ((j - 1) * k)).take k := by
 have h1 : i * k ≤ n * k := Nat.mul_le_mul_right _ hi
 have l1 : (xs.take (i * k)).length = i * k := by rw [List.length_take]; omega
 unfold laid
 split
 ·rename_i h
  have h2 : (j + 1) * k ≤ i * k := Nat.mul_le_mul_right _ h
  rw [Nat.add_mul, Nat.one_mul] at h2
  rw [List.append_assoc, List.drop_append_of_le_length (by omega), List.take_append_of_le_length (by rw [List.length_drop]; omega), List.drop_take, List.take_take, Nat.min_eq_left (by omega)]
 ·split
  ·rename_i h
   subst h
   rw [List.append_assoc, List.drop_append_of_le_length (by omega), List.drop_eq_nil_of_le (by omega), List.nil_append, List.take_append_of_le_length (by omega), List.take_of_length_le (by omega)]
  ·rename_i h h'
   obtain ⟨m, rfl⟩ : ∃ m, j = m + 1 := ⟨j - 1, by omega⟩
   have h2 : i * k ≤ m * k := Nat.mul_le_mul_right _ (by omega)
   rw [Nat.add_sub_cancel]
   have e1 : (xs.take (i * k) ++ vs).length = i * k + k := by rw [List.length_append, l1, hv]
   rw [show (m + 1) * k = (xs.take (i * k) ++ vs).length + (m * k - i * k) by rw [e1, Nat.add_mul, Nat.one_mul]; omega, ← List.drop_drop, List.drop_left, List.drop_drop, show i * k + (m * k - i * k) = m * k by omega]
theorem list_laid {α : Type} {l : List α} {i : Nat} {e : α} (hi : i ≤ l.length) (j : Nat) : (l.take i ++ e :: l.drop i)[j]? = if j < i then l[j]? else if j = i then some e else l[j - 1]? := by
 have l1 : (l.take i).length = i := by rw [List.length_take]; omega
 split
 ·rename_i h
  rw [List.getElem?_append_left (by omega), List.getElem?_take, if_pos h]
 ·rename_i h
  rw [List.getElem?_append_right (by omega), l1]
  split
  ·rename_i h'
   subst h'
   simp
  ·rename_i h'
   obtain ⟨m, hm⟩ : ∃ m, j - i = m + 1 := ⟨j - i - 1, by omega⟩
   rw [hm, List.getElem?_cons_succ, List.getElem?_drop]
   congr 1
   omega

def Wand (F : Nat → Prop) (w : World) (D Dk : Nat → Prop) (gk g : Nat) (ctx : St → St) : Prop :=
 ∀ (F' : Nat → Prop) (W : World) (Dk' : Nat → Prop) (t' : St), (∀ b, F b → F' b) → SetM F' W Dk' gk t' → w.heap.size ≤ W.heap.size → (∀ b, Dk' b → Dk b ∨ w.heap.size ≤ b) → (∀ b, b < w.heap.size → ¬ Dk b → W.heap[b]? = w.heap[b]?) → ∃ D', SetM F' W D' g (ctx t') ∧ (∀ b, D' b → D b ∨ Dk' b)

section
variable {F : Nat → Prop} {w : World} {D : Nat → Prop} {g : Nat} {m : List E} {ks : List (E × St)}
theorem SetM.kid (h : SetM F w D g (.mk m ks)) (hF : ∀ b, F b → b < w.heap.size ∧ ¬ D b) (hD : ∀ b, D b → b < w.heap.size) {i : Nat} {k : E × St} (hk : ks[i]? = some k) :
  ∃ (Dk : Nat → Prop) (gk : Nat) (mv kv : Value) (ys : List Value), Bk w g 130 #[mv, kv] ∧ w.ownsRow 0 214 5 kv ks.length ys ∧ KidAt F w k.1 gk ((ys.drop (i * 5)).take 5) ∧ SetM F w Dk gk k.2 ∧ (∀ b, Dk b → D b) ∧ Wand F w D Dk gk g fun t' => .mk m (ks.set i (k.1, t')) := by
 have hil : i < ks.length := (List.getElem?_eq_some_iff.1 hk).1
 cases h with
 | @mk _ _ _ _ mv kv xs ys Ds G h1 h2 h3 h4 h5 h6 h7 h8 h9 h10 h11 h12 h13 h14 =>
 refine ⟨Ds i, G i, mv, kv, ys, h2, h6, h11 i k hk, h12 i k hk, fun b hb => (h13 i b hil hb).1, ?_⟩
 intro F' W Dk' t' hFF ht hsz hdk hfr
 have hml := h5.lt
 have hkl := h6.lt
 have keep : ∀ b, D b → ¬ Ds i b → W.heap[b]? = w.heap[b]? := fun b hb hn => hfr b (hD b hb) hn
 have kF : Keeps F w W := fun b hb => hfr b (hF b hb).1 fun hd => (hF b hb).2 (h13 i b hil hd).1
 have hset : ∀ (j : Nat) x, (ks.set i (k.1, t'))[j]? = some x → (j = i ∧ x = (k.1, t')) ∨ (j ≠ i ∧ ks[j]? = some x) := by
  intro j x hx
  rw [List.getElem?_set] at hx
  split at hx
  ·rename_i e
   subst e
   exact .inl ⟨rfl, (Option.some.inj (by simpa [hil] using hx)).symm⟩
  ·rename_i e
   exact .inr ⟨fun e' => e e'.symm, hx⟩
 refine ⟨fun b => (D b ∧ ¬ Ds i b) ∨ Dk' b, .mk (Ds := fun j b => if j = i then Dk' b else Ds j b) (G := G) (.inl ⟨h1, fun hd => (h13 i g hil hd).2.1 rfl⟩) ?_ h3 (by rw [List.length_set]; exact h4) ?_ ?_ ?_ ?_ ?_ (mv := mv) (kv := kv) (xs := xs) (ys := ys) (by rw [List.length_set]; exact h10) ?_ ?_ ?_ ?_, fun b hb => hb.imp (fun h => h.1) id⟩
 ·exact (keep g h1 fun hd => (h13 i g hil hd).2.1 rfl).trans h2
 ·exact ownsRow_keeps h5 fun b hb => keep b (h7 b hb).1 fun hd => (h13 i b hil hd).2.2.1 hb
 ·rw [List.length_set]
  exact ownsRow_keeps h6 fun b hb => keep b (h8 b hb).1 fun hd => (h13 i b hil hd).2.2.2 hb
 ·exact fun b hb => ⟨.inl ⟨(h7 b hb).1, fun hd => (h13 i b hil hd).2.2.1 hb⟩, (h7 b hb).2⟩
 ·exact fun b hb => ⟨.inl ⟨(h8 b hb).1, fun hd => (h13 i b hil hd).2.2.2 hb⟩, (h8 b hb).2⟩
 ·exact h9.mono fun _ _ h => (h.keeps kF).mono hFF
 ·intro j x hx
  rcases hset j x hx with ⟨rfl, rfl⟩ | ⟨-, hx⟩
  ·exact ((h11 j k hk).keeps kF).mono hFF
  ·exact ((h11 j x hx).keeps kF).mono hFF
 ·intro j x hx
  rcases hset j x hx with ⟨rfl, rfl⟩ | ⟨hne, hx⟩
  ·have e : (fun b => if j = j then Dk' b else Ds j b) = Dk' := by funext b; rw [if_pos rfl]
   rw [e]
   exact ht
  ·have e : (fun b => if j = i then Dk' b else Ds j b) = Ds j := by funext b; rw [if_neg hne]
   rw [e]
   have hjl : j < ks.length := (List.getElem?_eq_some_iff.1 hx).1
   exact ((h12 j x hx).keeps (fun b hb => keep b (h13 j b hjl hb).1 fun hd => h14 j i b hjl hil hne hb hd) kF).mono hFF
 ·intro j b hj hb
  rw [List.length_set] at hj
  by_cases hji : j = i
  ·subst hji
   have hb : Dk' b := by simpa using hb
   refine ⟨.inr hb, ?_, ?_, ?_⟩
   ·intro e; subst e
    rcases hdk b hb with h | h
    ·exact (h13 j b hil h).2.1 rfl
    ·have := hD b h1; omega
   ·intro e
    rcases hdk b hb with h | h
    ·exact (h13 j b hil h).2.2.1 e
    ·have := (hml b e).2; omega
   ·intro e
    rcases hdk b hb with h | h
    ·exact (h13 j b hil h).2.2.2 e
    ·have := (hkl b e).2; omega
  ·have hb : Ds j b := by simpa [hji] using hb
   have h := h13 j b hj hb
   exact ⟨.inl ⟨h.1, fun hd => h14 j i b hj hil hji hb hd⟩, h.2⟩
 ·intro j j' b hj hj' hne hb hb'
  rw [List.length_set] at hj hj'
  have pick : ∀ x, (if x = i then Dk' b else Ds x b) → x < ks.length → (x = i ∧ (Ds i b ∨ w.heap.size ≤ b)) ∨ (x ≠ i ∧ Ds x b) := fun x hx hl => by
   by_cases e : x = i
   ·rw [if_pos e] at hx; exact .inl ⟨e, hdk b hx⟩
   ·rw [if_neg e] at hx; exact .inr ⟨e, hx⟩
  rcases pick j hb hj with ⟨e1, h1 | h1⟩ | ⟨e1, h1⟩ <;> rcases pick j' hb' hj' with ⟨e2, h2 | h2⟩ | ⟨e2, h2⟩
  ·omega
  ·omega
  ·exact h14 i j' b hil hj' (by omega) h1 h2
  ·omega
  ·omega
  ·have := hD b (h13 j' b hj' h2).1; omega
  ·exact h14 j i b hj hil e1 h1 h2
  ·have := hD b (h13 j b hj h1).1; omega
  ·exact h14 j j' b hj hj' hne h1 h2

theorem SetM.members (h : SetM F w D g (.mk m ks)) (hF : ∀ b, F b → b < w.heap.size ∧ ¬ D b) (hD : ∀ b, D b → b < w.heap.size) :
  ∃ (mv kv : Value) (xs : List Value), ESetC F w 130 #[mv, kv] g 0 m mv xs ∧ (∀ b, F b → b < w.heap.size ∧ b ≠ g ∧ mv.ownBlock ≠ some b) ∧ (∀ b, mv.ownBlock = some b → D b) ∧
   ∀ (W : World) (m' : List E) (mv' : Value) (xs' : List Value), ESetC F W 130 (#[mv, kv].setIfInBounds 0 mv') g 0 m' mv' xs' → (mv'.ownBlock = mv.ownBlock ∨ ∃ b, mv'.ownBlock = some b ∧ w.heap.size ≤ b) → Grown2 w W g mv.ownBlock → m'.length * 32 ≤ R47 →
    ∃ D', SetM F W D' g (.mk m' ks) ∧ ∀ b, D' b → (D b ∨ w.heap.size ≤ b) ∧ b < W.heap.size := by
 cases h with
 | @mk _ _ _ _ mv kv xs ys Ds G h1 h2 h3 h4 h5 h6 h7 h8 h9 h10 h11 h12 h13 h14 =>
 refine ⟨mv, kv, xs, ⟨h2, rfl, h5, h9, fun e => (h7 g e).2 rfl⟩, fun b hb => ⟨(hF b hb).1, fun e => (hF b hb).2 (e ▸ h1), fun e => (hF b hb).2 (h7 b e).1⟩, fun b hb => (h7 b hb).1, ?_⟩
 intro W m' mv' xs' hs hblk hgr hm'
 have hkl := h6.lt
 have keep : ∀ b, D b → b ≠ g → mv.ownBlock ≠ some b → W.heap[b]? = w.heap[b]? := fun b hb hg hm => hgr.block b (hD b hb) hg fun e => hm e.symm
 have kF : Keeps F w W := fun b hb => hgr.block b (hF b hb).1 (fun e => (hF b hb).2 (e ▸ h1)) fun e => (hF b hb).2 (h7 b e.symm).1
 refine ⟨fun b => D b ∨ mv'.ownBlock = some b, .mk (Ds := Ds) (G := G) (.inl h1) (by simpa using hs.bk) hm' h4 hs.own ?_ ?_ ?_ hs.at_ h10 (fun i k hk => (h11 i k hk).keeps kF) ?_ ?_ h14, ?_⟩
 ·exact ownsRow_keeps h6 fun b hb => keep b (h8 b hb).1 (h8 b hb).2.1 (h8 b hb).2.2
 ·exact fun b hb => ⟨.inr hb, fun e => hs.sep (e ▸ hb)⟩
 ·intro b hb
  refine ⟨.inl (h8 b hb).1, (h8 b hb).2.1, fun e => ?_⟩
  rcases hblk with e' | ⟨b', e', hb'⟩
  ·exact (h8 b hb).2.2 (by rw [← e']; exact e)
  ·rw [e'] at e; cases e; have := (hkl b hb).2; omega
 ·intro i k hk
  have hil := (List.getElem?_eq_some_iff.1 hk).1
  exact (h12 i k hk).keeps (fun b hb => keep b (h13 i b hil hb).1 (h13 i b hil hb).2.1 (h13 i b hil hb).2.2.1) kF
 ·intro i b hi hb
  have h := h13 i b hi hb
  refine ⟨.inl h.1, h.2.1, fun e => ?_, h.2.2.2⟩
  rcases hblk with e' | ⟨b', e', hb'⟩
  ·exact h.2.2.1 (by rw [← e']; exact e)
  ·rw [e'] at e; cases e; have := hD b h.1; omega
 ·rintro b (hb | hb)
  ·exact ⟨.inl hb, Nat.lt_of_lt_of_le (hD b hb) hgr.size⟩
  ·refine ⟨?_, (hs.own.lt b hb).2⟩
   rcases hblk with e' | ⟨b', e', hb'⟩
   ·exact .inl (h7 b (by rw [← e']; exact hb)).1
   ·rw [e'] at hb; cases hb; exact .inr hb'

theorem SetM.kids (h : SetM F w D g (.mk m ks)) (hF : ∀ b, F b → b < w.heap.size ∧ ¬ D b) (hD : ∀ b, D b → b < w.heap.size) :
  ∃ (mv kv : Value) (ys : List Value) (G : Nat → Nat), Bk w g 130 #[mv, kv] ∧ w.ownsRow 0 214 5 kv ks.length ys ∧ (∀ (i : Nat) k, ks[i]? = some k → KidAt F w k.1 (G i) ((ys.drop (i * 5)).take 5)) ∧ kv.ownBlock ≠ some g ∧ (∀ b, F b → b < w.heap.size ∧ b ≠ g ∧ kv.ownBlock ≠ some b) ∧
   ∀ (W : World) (i gn : Nat) (e : E) (p0 p1 p2 p3 kv' : Value), i ≤ ks.length → Bk W g 130 #[mv, kv'] → W.ownsRow 0 214 5 kv' (ks.length + 1) (laid 5 i [p0, p1, p2, p3, .pointer (some ⟨gn, 0, none⟩)] ys) → PEAt F W e [p0, p1, p2, p3] → Bk W gn 130 #[.slice none 0 0, .slice none 0 0] → w.heap.size ≤ gn →
    (kv'.ownBlock = kv.ownBlock ∨ ∃ b, kv'.ownBlock = some b ∧ w.heap.size ≤ b ∧ b ≠ gn) → Grown2 w W g kv.ownBlock → (ks.length + 1) * 40 ≤ R47 →
    ∃ D', SetM F W D' g (.mk m (ks.take i ++ (e, St.empty) :: ks.drop i)) ∧ ∀ b, D' b → (D b ∨ w.heap.size ≤ b) ∧ b < W.heap.size := by
 cases h with
 | @mk _ _ _ _ mv kv xs ys Ds G h1 h2 h3 h4 h5 h6 h7 h8 h9 h10 h11 h12 h13 h14 =>
 refine ⟨mv, kv, ys, G, h2, h6, h11, fun e => (h8 g e).2.1 rfl, fun b hb => ⟨(hF b hb).1, fun e => (hF b hb).2 (e ▸ h1), fun e => (hF b hb).2 (h8 b e).1⟩, ?_⟩
 intro W i gn e p0 p1 p2 p3 kv' hi hbk hown hpe hgn hgs hblk hgr hn
 have hml := h5.lt
 have hkl := h6.lt
 have hgl : g < w.heap.size := hD g h1
 have keep : ∀ b, D b → b ≠ g → kv.ownBlock ≠ some b → W.heap[b]? = w.heap[b]? := fun b hb hg hm => hgr.block b (hD b hb) hg fun e => hm e.symm
 have kF : Keeps F w W := fun b hb => hgr.block b (hF b hb).1 (fun e => (hF b hb).2 (e ▸ h1)) fun e => (hF b hb).2 (h8 b e.symm).1
 have hlen : (ks.take i ++ (e, St.empty) :: ks.drop i).length = ks.length + 1 := by simp; omega
 have hix : ∀ (j : Nat) x, (ks.take i ++ (e, St.empty) :: ks.drop i)[j]? = some x → (j < i ∧ ks[j]? = some x) ∨ (j = i ∧ x = (e, St.empty)) ∨ (i < j ∧ ks[j - 1]? = some x) := by
  intro j x hx
  rw [list_laid hi] at hx
  split at hx
  ·exact .inl ⟨by assumption, hx⟩
  ·split at hx
   ·exact .inr (.inl ⟨by assumption, (Option.some.inj hx).symm⟩)
   ·exact .inr (.inr ⟨by omega, hx⟩)
 have hb' : ∀ b, kv'.ownBlock = some b → (D b ∨ w.heap.size ≤ b) ∧ b ≠ g ∧ mv.ownBlock ≠ some b ∧ b ≠ gn ∧ ∀ j, j < ks.length → ¬ Ds j b := by
  intro b hb
  rcases hblk with e' | ⟨b', e', hb', hbn⟩
  ·have h := h8 b (by rw [← e']; exact hb)
   exact ⟨.inl h.1, h.2.1, h.2.2, by have := hD b h.1; omega, fun j hj hd => (h13 j b hj hd).2.2.2 (by rw [← e']; exact hb)⟩
  ·rw [e'] at hb; cases hb
   exact ⟨.inr hb', by omega, fun e => by have := (hml b e).2; omega, hbn, fun j hj hd => by have := hD b (h13 j b hj hd).1; omega⟩
 refine ⟨fun b => D b ∨ kv'.ownBlock = some b ∨ b = gn, .mk (Ds := fun j b => if j < i then Ds j b else if j = i then b = gn else Ds (j - 1) b) (G := fun j => if j < i then G j else if j = i then gn else G (j - 1)) (.inl h1) hbk h3 (by rw [hlen]; exact hn) ?_ (by rw [hlen]; exact hown) ?_ ?_ (h9.mono fun _ _ h => h.keeps kF) ?_ ?_ ?_ ?_ ?_, ?_⟩
 ·exact ownsRow_keeps h5 fun b hb => keep b (h7 b hb).1 (h7 b hb).2 fun e => (h8 b e).2.2 hb
 ·exact fun b hb => ⟨.inl (h7 b hb).1, (h7 b hb).2⟩
 ·exact fun b hb => ⟨.inr (.inl hb), (hb' b hb).2.1, (hb' b hb).2.2.1⟩
 ·rw [hlen]; exact laid_length h10 rfl hi
 ·intro j x hx
  have hjn : j ≤ ks.length := by have := (List.getElem?_eq_some_iff.1 hx).1; omega
  rw [laid_at (by decide) h10 rfl hi j hjn]
  rcases hix j x hx with ⟨hj, hx⟩ | ⟨rfl, rfl⟩ | ⟨hj, hx⟩
  ·simp only [if_pos hj]
   exact (h11 j x hx).keeps kF
  ·simp only [Nat.lt_irrefl, if_false, if_true]
   exact ⟨p0, p1, p2, p3, rfl, hpe⟩
  ·simp only [if_neg (show ¬ j < i by omega), if_neg (show ¬ j = i by omega)]
   exact (h11 (j - 1) x hx).keeps kF
 ·intro j x hx
  rcases hix j x hx with ⟨hj, hx⟩ | ⟨rfl, rfl⟩ | ⟨hj, hx⟩
  ·simp only [if_pos hj]
   have hil := (List.getElem?_eq_some_iff.1 hx).1
   exact (h12 j x hx).keeps (fun b hb => keep b (h13 j b hil hb).1 (h13 j b hil hb).2.1 (h13 j b hil hb).2.2.2) kF
  ·simp only [Nat.lt_irrefl, if_false, if_true]
   exact .mk (Ds := fun _ _ => False) (G := fun _ => 0) (xs := []) (ys := []) rfl hgn (by simp) (by simp) (World.ownsRow_nil _ _ _ _) (World.ownsRow_nil _ _ _ _) (by simp [Value.ownBlock]) (by simp [Value.ownBlock]) Cells.nil_ rfl (by simp) (by simp) (by simp) (by simp)
  ·simp only [if_neg (show ¬ j < i by omega), if_neg (show ¬ j = i by omega)]
   have hil := (List.getElem?_eq_some_iff.1 hx).1
   exact (h12 (j - 1) x hx).keeps (fun b hb => keep b (h13 (j - 1) b hil hb).1 (h13 (j - 1) b hil hb).2.1 (h13 (j - 1) b hil hb).2.2.2) kF
 ·intro j b hj hb
  rw [hlen] at hj
  have old : ∀ j', j' < ks.length → Ds j' b → (D b ∨ kv'.ownBlock = some b ∨ b = gn) ∧ b ≠ g ∧ mv.ownBlock ≠ some b ∧ kv'.ownBlock ≠ some b := fun j' hj' hd => by
   have h := h13 j' b hj' hd
   exact ⟨.inl h.1, h.2.1, h.2.2.1, fun e => (hb' b e).2.2.2.2 j' hj' hd⟩
  split at hb
  ·exact old j (by omega) hb
  ·split at hb
   ·subst hb
    refine ⟨.inr (.inr rfl), by omega, fun e => by have := (hml b e).2; omega, fun e => (hb' b e).2.2.2.1 rfl⟩
   ·exact old (j - 1) (by omega) hb
 ·intro j j' b hj hj' hne hb hb2
  rw [hlen] at hj hj'
  have hgnD : ∀ j', j' < ks.length → ¬ Ds j' gn := fun j' hj' hd => by have := hD gn (h13 j' gn hj' hd).1; omega
  split at hb <;> split at hb2
  ·exact h14 j j' b (by omega) (by omega) hne hb hb2
  ·split at hb2
   ·subst hb2; exact hgnD j (by omega) hb
   ·exact h14 j (j' - 1) b (by omega) (by omega) (by omega) hb hb2
  ·split at hb
   ·subst hb; exact hgnD j' (by omega) hb2
   ·exact h14 (j - 1) j' b (by omega) (by omega) (by omega) hb hb2
  ·split at hb <;> split at hb2
   ·omega
   ·subst hb; exact hgnD (j' - 1) (by omega) hb2
   ·subst hb2; exact hgnD (j - 1) (by omega) hb
   ·exact h14 (j - 1) (j' - 1) b (by omega) (by omega) (by omega) hb hb2
 ·rintro b (hb | hb | hb)
  ·exact ⟨.inl hb, Nat.lt_of_lt_of_le (hD b hb) hgr.size⟩
  ·exact ⟨(hb' b hb).1, (hown.lt b hb).2⟩
  ·exact ⟨.inr (by omega), by rw [hb]; exact hgn.lt⟩
end

theorem ownsRow_det {w : World} {b b' : Nat} {e e' : TypeId} {k n : Nat} {v : Value} {xs ys : List Value} (h : w.ownsRow b e k v n xs) (h' : w.ownsRow b' e' k v n ys) : xs = ys := by
 obtain ⟨h1, h2 | ⟨g, c, cur, e1, q1, q2, q3, q4, q5, q6⟩⟩ := h
 ·obtain ⟨h1', -⟩ := h'
  rw [h2.2] at h1 h1'
  rw [Nat.zero_mul] at h1 h1'
  rw [List.eq_nil_of_length_eq_zero h1, List.eq_nil_of_length_eq_zero h1']
 ·obtain ⟨h1', h2' | ⟨g', c', cur', e2, r1, r2, r3, r4, r5, r6⟩⟩ := h'
  ·rw [e1] at h2'
   cases h2'.1
  ·rw [e1] at e2
   cases e2
   rw [q2] at r2
   cases r2
   rw [← q6, ← r6]

structure Hole (F : Nat → Prop) (w : World) (D : Nat → Prop) (g : Nat) (W : World) (Dk : Nat → Prop) (gk : Nat) (t : St) (ctx : St → St) : Prop where
 sub : SetM F W Dk gk t
 dk : ∀ b, Dk b → (D b ∨ w.heap.size ≤ b) ∧ b < W.heap.size
 wand : ∀ (W' : World) (Dk' : Nat → Prop) (t' : St), SetM F W' Dk' gk t' → W.heap.size ≤ W'.heap.size → (∀ b, Dk' b → (Dk b ∨ W.heap.size ≤ b) ∧ b < W'.heap.size) → (∀ b, b < W.heap.size → ¬ Dk b → W'.heap[b]? = W.heap[b]?) → ∃ D', SetM F W' D' g (ctx t') ∧ ∀ b, D' b → (D b ∨ w.heap.size ≤ b) ∧ b < W'.heap.size
 os : W.os = w.os
 tape : W.tape = w.tape
 output : W.output = w.output
 size : w.heap.size ≤ W.heap.size
 frame : ∀ b, b < w.heap.size → ¬ D b → W.heap[b]? = w.heap[b]?
theorem Hole.start {F : Nat → Prop} {w : World} {D : Nat → Prop} {g : Nat} {s : St} (h : SetM F w D g s) (hD : ∀ b, D b → b < w.heap.size) : Hole F w D g w D g s id :=
 ⟨h, fun b hb => ⟨.inl hb, hD b hb⟩, fun W' Dk' t' ht hs hd _ => ⟨Dk', ht, hd⟩, rfl, rfl, rfl, Nat.le_refl _, fun _ _ _ => rfl⟩
theorem Hole.free {F : Nat → Prop} {w W : World} {D Dk : Nat → Prop} {g gk : Nat} {t : St} {ctx : St → St} (h : Hole F w D g W Dk gk t ctx) (hF : ∀ b, F b → b < w.heap.size ∧ ¬ D b) : ∀ b, F b → b < W.heap.size ∧ ¬ Dk b := fun b hb =>
 ⟨Nat.lt_of_lt_of_le (hF b hb).1 h.size, fun hd => by rcases (h.dk b hd).1 with h1 | h1; exact (hF b hb).2 h1; have := (hF b hb).1; omega⟩
theorem Hole.keepsF {F : Nat → Prop} {w W : World} {D Dk : Nat → Prop} {g gk : Nat} {t : St} {ctx : St → St} (h : Hole F w D g W Dk gk t ctx) (hF : ∀ b, F b → b < w.heap.size ∧ ¬ D b) : Keeps F w W := fun b hb => h.frame b (hF b hb).1 (hF b hb).2
theorem Hole.drew {F : Nat → Prop} {w W : World} {D Dk : Nat → Prop} {g gk : Nat} {t : St} {ctx : St → St} (h : Hole F w D g W Dk gk t ctx) : Hole F w D g W.drew Dk gk t ctx :=
 ⟨h.sub.keeps (fun _ _ => rfl) (fun _ _ => rfl), h.dk, h.wand, h.os, h.tape, h.output, h.size, h.frame⟩
theorem Hole.step {F : Nat → Prop} {w W W2 : World} {D Dk D2 Dk2 : Nat → Prop} {g gk gk2 : Nat} {t t2 : St} {ctx ctx2 : St → St} (h : Hole F w D g W Dk gk t ctx) (h2 : SetM F W2 Dk2 gk2 t2) (hd2 : ∀ b, Dk2 b → D2 b) (hD2 : ∀ b, D2 b → (Dk b ∨ W.heap.size ≤ b) ∧ b < W2.heap.size) (hw : Wand F W2 D2 Dk2 gk2 gk ctx2)
  (ho : W2.os = W.os) (htp : W2.tape = W.tape) (hou : W2.output = W.output) (hsz : W.heap.size ≤ W2.heap.size) (hfr : ∀ b, b < W.heap.size → ¬ Dk b → W2.heap[b]? = W.heap[b]?) : Hole F w D g W2 Dk2 gk2 t2 (fun x => ctx (ctx2 x)) := by
 have up : ∀ b, D2 b → (D b ∨ w.heap.size ≤ b) ∧ b < W2.heap.size := fun b hb => by
  refine ⟨?_, (hD2 b hb).2⟩
  rcases (hD2 b hb).1 with h1 | h1
  ·exact (h.dk b h1).1
  ·exact .inr (Nat.le_trans h.size h1)
 refine ⟨h2, fun b hb => up b (hd2 b hb), ?_, ho.trans h.os, htp.trans h.tape, hou.trans h.output, Nat.le_trans h.size hsz, fun b hb hd => ?_⟩
 ·intro W' Dk' t' ht hs hdk' hf
  obtain ⟨D'', q1, q2⟩ := hw F W' Dk' t' (fun _ h => h) ht hs (fun b hb => (hdk' b hb).1) hf
  refine h.wand W' D'' (ctx2 t') q1 (Nat.le_trans hsz hs) (fun b hb => ?_) (fun b hb hd => ?_)
  ·rcases q2 b hb with h1 | h1
   ·exact ⟨(hD2 b h1).1, Nat.lt_of_lt_of_le (hD2 b h1).2 hs⟩
   ·refine ⟨?_, (hdk' b h1).2⟩
    rcases (hdk' b h1).1 with h3 | h3
    ·exact (hD2 b (hd2 b h3)).1
    ·exact .inr (Nat.le_trans hsz h3)
  ·rw [hf b (by omega) fun h1 => ?_, hfr b hb hd]
   rcases (hD2 b (hd2 b h1)).1 with h3 | h3
   ·exact hd h3
   ·omega
 ·rw [hfr b (Nat.lt_of_lt_of_le hb h.size) fun h1 => ?_, h.frame b hb hd]
  rcases (h.dk b h1).1 with h3 | h3
  ·exact hd h3
  ·omega

theorem St.Le.empty_ (n : Nat) : St.empty.Le n := .mk (by simp) (by simp) (by simp)
theorem insK_length {e : E} {f : St → St} {ks : List (E × St)} : (insK e f ks).length ≤ ks.length + 1 := by
 induction ks with
 | nil => simp [insK]
 | cons k ks ih =>
  rw [insK]
  split
  ·simp only [List.length_cons]; omega
  ·split <;> simp
theorem ins_le : ∀ {p : List E} {n : Nat} {s : St}, s.Le n → (St.ins p s).Le (n + 1)
 | [], n, s, h => h.mono (by omega)
 | [e], n, s, h => by
  cases h with
  | @mk m ks h1 h2 h3 => exact .mk (by have := insC_length (c := E.cmp) e m; simp only [St.mem]; omega) (by simp only [St.kids]; omega) fun k hk => (h3 k hk).mono (by omega)
 | e :: x :: p, n, s, h => by
  cases h with
  | @mk m ks h1 h2 h3 =>
   refine .mk (by simp only [St.mem]; omega) (by have := insK_length (e := e) (f := St.ins (x :: p)) (ks := ks); simp only [St.kids]; omega) fun k hk => ?_
   rcases mem_insK hk with rfl | ⟨k', h6, rfl⟩ | hk
   ·exact ins_le (St.Le.empty_ n)
   ·exact ins_le (h3 k' h6)
   ·exact (h3 k hk).mono (by omega)
theorem insK_found {e : E} {ks : List (E × St)} (hh : hasC E.cmp e (ks.map Prod.fst) = true) : ∃ k, ks[cntC E.cmp e (ks.map Prod.fst)]? = some k ∧ E.cmp k.1 e = 0 ∧ ∀ f, insK e f ks = ks.set (cntC E.cmp e (ks.map Prod.fst)) (k.1, f k.2) := by
 induction ks with
 | nil => simp [hasC] at hh
 | cons a ks ih =>
  unfold hasC at hh
  simp only [List.map_cons, cntC] at hh ⊢
  by_cases h : E.cmp a.1 e < 0
  ·rw [if_pos h] at hh ⊢
   obtain ⟨k, h1, h2, h3⟩ := ih (by unfold hasC; simpa using hh)
   refine ⟨k, by simpa using h1, h2, fun f => ?_⟩
   rw [insK, if_pos h, h3 f, List.set_cons_succ]
  ·rw [if_neg h] at hh ⊢
   have h0 : E.cmp a.1 e = 0 := by simpa using hh
   refine ⟨a, rfl, h0, fun f => ?_⟩
   rw [insK, if_neg h, if_pos h0, List.set_cons_zero]
theorem insK_new {e : E} {ks : List (E × St)} (hh : hasC E.cmp e (ks.map Prod.fst) = false) : ∀ f, insK e f ks = ks.take (cntC E.cmp e (ks.map Prod.fst)) ++ (e, f St.empty) :: ks.drop (cntC E.cmp e (ks.map Prod.fst)) := by
 induction ks with
 | nil => intro f; simp [insK, cntC]
 | cons a ks ih =>
  unfold hasC at hh
  simp only [List.map_cons, cntC] at hh ⊢
  by_cases h : E.cmp a.1 e < 0
  ·rw [if_pos h] at hh ⊢
   intro f
   have := ih (by unfold hasC; simpa using hh) f
   rw [insK, if_pos h, this]
   simp
  ·rw [if_neg h] at hh ⊢
   have h0 : ¬ E.cmp a.1 e = 0 := by simpa using hh
   intro f
   rw [insK, if_neg h, if_neg h0]
   simp
theorem keys_sorted {ks : List (E × St)} (h : SortC kcmp ks) : SortC E.cmp (ks.map Prod.fst) := List.pairwise_map.2 h

end Go.Proofs.YtbicoknghdgahaaGreat
