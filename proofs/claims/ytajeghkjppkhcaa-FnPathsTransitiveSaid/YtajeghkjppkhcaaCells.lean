/-
  Rows of structs of n cells each, generic; impl.fromValue.
-/
import Derived.Test.YtajeghkjppkhcaaFromTree
import Derived.Test.YtajeghkjppkhcaaLaw
set_option linter.unusedVariables false
set_option linter.unusedSimpArgs false
namespace Go.Proofs.Ytajeghkjppkhcaa
open Go.RowKit
attribute [local go_sem] run_store_float run_load_k

/-- the structs of the items, n cells each -/
def Cells {α : Type} (n : Nat) (P : α → List Value → Prop) (ls : List α) (xs : List Value) : Prop := xs.length = ls.length * n ∧ ∀ (i : Nat) a, ls[i]? = some a → P a ((xs.drop (i * n)).take n)
section
variable {α : Type} {n : Nat} {P Q : α → List Value → Prop} {ls bs : List α} {xs ys : List Value}
theorem Cells.mono (h : Cells n P ls xs) (k : ∀ a cs, P a cs → Q a cs) : Cells n Q ls xs := ⟨h.1, fun i a ha => k _ _ (h.2 i a ha)⟩
theorem Cells.nil_ : Cells n P [] [] := ⟨by simp, by simp⟩
theorem Cells.one {a : α} {cs : List Value} (h : P a cs) (hl : cs.length = n) : Cells n P [a] cs := by
  refine ⟨by simp [hl], fun i r' hr => ?_⟩
  cases i with
  | zero =>
    simp at hr
    subst hr
    rw [Nat.zero_mul, List.drop_zero, List.take_of_length_le (by omega)]
    exact h
  | succ i => simp at hr
theorem Cells.append (h : Cells n P ls xs) (h' : Cells n P bs ys) : Cells n P (ls ++ bs) (xs ++ ys) := by
  have l1 := h.1
  have l2 := h'.1
  refine ⟨by simp only [List.length_append, l1, l2, Nat.add_mul], fun i r hr => ?_⟩
  by_cases hi : i < ls.length
  · rw [List.getElem?_append_left hi] at hr
    have := h.2 i r hr
    have e : i * n + n ≤ xs.length := by
      rw [l1, ← Nat.succ_mul]
      exact Nat.mul_le_mul_right _ hi
    rw [List.drop_append_of_le_length (by omega), List.take_append_of_le_length (by simp only [List.length_drop]; omega)]
    exact this
  · rw [List.getElem?_append_right (by omega)] at hr
    have := h'.2 _ r hr
    have e : i * n = xs.length + (i - ls.length) * n := by
      rw [l1, ← Nat.add_mul]
      congr 1
      omega
    rw [e, List.drop_length_add_append]
    exact this
theorem Cells.take (h : Cells n P ls xs) (m : Nat) (hm : m ≤ ls.length) : Cells n P (ls.take m) (xs.take (m * n)) := by
  have l1 := h.1
  refine ⟨?_, fun i r hr => ?_⟩
  · rw [List.length_take, List.length_take, l1, Nat.min_eq_left hm, Nat.min_eq_left (Nat.mul_le_mul_right _ hm)]
  · have hi : i < m := by
      have := (List.getElem?_eq_some_iff.1 hr).1
      simp only [List.length_take] at this
      omega
    rw [List.getElem?_take, if_pos hi] at hr
    have := h.2 i r hr
    have e : i * n + n ≤ m * n := by
      rw [← Nat.succ_mul]
      exact Nat.mul_le_mul_right _ hi
    rw [List.drop_take, List.take_take, Nat.min_eq_left (by omega)]
    exact this
theorem Cells.ones (h : Cells n P ls xs) (hn : 0 < n) (k : ∀ a cs, P a cs → ∀ u ∈ cs, u.oneCell' = true) : ∀ u ∈ xs, u.oneCell' = true := by
  intro u hu
  obtain ⟨j, hj⟩ := List.getElem?_of_mem hu
  have hjl := (List.getElem?_eq_some_iff.1 hj).1
  have l1 := h.1
  have hi : j / n < ls.length := Nat.div_lt_of_lt_mul (by rw [Nat.mul_comm, ← l1]; exact hjl)
  have hr := h.2 (j / n) ls[j / n] (List.getElem?_eq_getElem hi)
  have hmod := Nat.mod_lt j hn
  have hu' : ((xs.drop (j / n * n)).take n)[j % n]? = some u := by
    rw [List.getElem?_take, if_pos hmod, List.getElem?_drop]
    have : j / n * n + j % n = j := by rw [Nat.mul_comm]; exact Nat.div_add_mod j n
    rw [this]
    exact hj
  exact k _ _ hr u (List.mem_of_getElem? hu')
theorem Cells.at_ (h : Cells n P ls xs) {i : Nat} (hi : i < ls.length) : P ls[i] ((xs.drop (i * n)).take n) := h.2 i _ (List.getElem?_eq_getElem hi)
end

/-- the cells of an element of a row of structs of n cells -/
theorem rown_at {F : Nat → Prop} {w : World} {A : Option Addr} {n len k : Nat} {xs cs : List Value} (h : Row F w n A len xs) (hk : k < len) (hcs : (xs.drop (k * n)).take n = cs) :
    ∃ b o, A = some ⟨b, o, none⟩ ∧ F b ∧ ∀ j u, cs[j]? = some u → w.cell? ⟨b, o + k * n + j, none⟩ = some u := by
  obtain ⟨b, o, e, hF, hc⟩ := h.2 (by omega)
  refine ⟨b, o, e, hF, fun j u hu => ?_⟩
  rw [← hcs, List.getElem?_take] at hu
  split at hu
  · rw [List.getElem?_drop] at hu
    rw [Nat.add_assoc]
    exact hc _ _ hu
  · cases hu

attribute [local go_sem] meth_Unstructured

theorem RVAt.form {F : Nat → Prop} {w : World} {r : RV} {cs : List Value} (h : RVAt F w r cs) :
    ∃ (kind n : Int) (f : Nat) (s : ByteArray) (KA : Option Addr) (kl kc : Nat) (LA : Option Addr) (ll lc : Nat), cs = [.int .i64 kind, .int .i64 n, .float .f64 f, .string s, .slice KA kl kc, .slice LA ll lc] := by
  cases h; exact ⟨_, _, _, _, _, _, _, _, _, _, rfl⟩

end Go.Proofs.Ytajeghkjppkhcaa
