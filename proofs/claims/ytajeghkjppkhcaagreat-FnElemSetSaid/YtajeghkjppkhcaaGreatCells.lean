/-
  Rows of structs of n cells each, generic; impl.fromValue.
-/
import Derived.Test.YtajeghkjppkhcaaGreatFromTree
import Derived.Test.YtajeghkjppkhcaaGreatLaw
set_option linter.unusedVariables false
set_option linter.unusedSimpArgs false
namespace Go.Proofs.YtajeghkjppkhcaaGreat
open Go.RowKit
attribute [local go_sem] run_store_float run_load_k

/-- the structs of the items, n cells each -/
def Cells {α : Type} (n : Nat) (P : α → List Value → Prop) (ls : List α) (xs : List Value) : Prop := xs.length = ls.length * n ∧ ∀ (i : Nat) a, ls[i]? = some a → P a ((xs.drop (i * n)).take n)
section
variable {α : Type} {n : Nat} {P Q : α → List Value → Prop} {ls bs : List α} {xs ys : List Value}
theorem Cells.mono (h : Cells n P ls xs) (k : ∀ a cs, P a cs → Q a cs) : Cells n Q ls xs := ⟨h.1, fun i a ha => k _ _ (h.2 i a ha)⟩
theorem Cells.nil_ : Cells n P [] [] := ⟨by simp, by simp⟩
theorem Cells.one {a : α} {cs : List Value} (h : P a cs) (hl : cs.length = n) : Cells n P [a] cs := by
  refine ⟨by simp [hl], fun i r' hr => ?_⟩
  cases i with
  | zero =>
    simp at hr
    subst hr
    rw [Nat.zero_mul, List.drop_zero, List.take_of_length_le (by omega)]
    exact h
  | succ i => simp at hr
theorem Cells.append (h : Cells n P ls xs) (h' : Cells n P bs ys) : Cells n P (ls ++ bs) (xs ++ ys) := by
  have l1 := h.1
  have l2 := h'.1
  refine ⟨by simp only [List.length_append, l1, l2, Nat.add_mul], fun i r hr => ?_⟩
  by_cases hi : i < ls.length
  · rw [List.getElem?_append_left hi] at hr
    have := h.2 i r hr
    have e : i * n + n ≤ xs.length := by
      rw [l1, ← Nat.succ_mul]
      exact Nat.mul_le_mul_right _ hi
    rw [List.drop_append_of_le_length (by omega), List.take_append_of_le_length (by simp only [List.length_drop]; omega)]
    exact this
  · rw [List.getElem?_append_right (by omega)] at hr
    have := h'.2 _ r hr
    have e : i * n = xs.length + (i - ls.length) * n := by
      rw [l1, ← Nat.add_mul]
      congr 1
      omega
    rw [e, List.drop_length_add_append]
    exact this
theorem Cells.take (h : Cells n P ls xs) (m : Nat) (hm : m ≤ ls.length) : Cells n P (ls.take m) (xs.take (m * n)) := by
  have l1 := h.1
  refine ⟨?_, fun i r hr => ?_⟩
  · rw [List.length_take, List.length_take, l1, Nat.min_eq_left hm, Nat.min_eq_left (Nat.mul_le_mul_right _ hm)]
  · have hi : i < m := by
      have := (List.getElem?_eq_some_iff.1 hr).1
      simp only [List.length_take] at this
      omega
    rw [List.getElem?_take, if_pos hi] at hr
    have := h.2 i r hr
    have e : i * n + n ≤ m * n := by
      rw [← Nat.succ_mul]
      exact Nat.mul_le_mul_right _ hi
    rw [List.drop_take, List.take_take, Nat.min_eq_left (by omega)]
    exact this
theorem Cells.ones (h : Cells n P ls xs) (hn : 0 < n) (k : ∀ a cs, P a cs → ∀ u ∈ cs, u.oneCell' = true) : ∀ u ∈ xs, u.oneCell' = true := by
  intro u hu
  obtain ⟨j, hj⟩ := List.getElem?_of_mem hu
  have hjl := (List.getElem?_eq_some_iff.1 hj).1
  have l1 := h.1
  have hi : j / n < ls.length := Nat.div_lt_of_lt_mul (by rw [Nat.mul_comm, ← l1]; exact hjl)
  have hr := h.2 (j / n) ls[j / n] (List.getElem?_eq_getElem hi)
  have hmod := Nat.mod_lt j hn
  have hu' : ((xs.drop (j / n * n)).take n)[j % n]? = some u := by
    rw [List.getElem?_take, if_pos hmod, List.getElem?_drop]
    have : j / n * n + j % n = j := by rw [Nat.mul_comm]; exact Nat.div_add_mod j n
    rw [this]
    exact hj
  exact k _ _ hr u (List.mem_of_getElem? hu')
theorem Cells.at_ (h : Cells n P ls xs) {i : Nat} (hi : i < ls.length) : P ls[i] ((xs.drop (i * n)).take n) := h.2 i _ (List.getElem?_eq_getElem hi)
end

/-- the cells of an element of a row of structs of n cells -/
theorem rown_at {F : Nat → Prop} {w : World} {A : Option Addr} {n len k : Nat} {xs cs : List Value} (h : Row F w n A len xs) (hk : k < len) (hcs : (xs.drop (k * n)).take n = cs) :
    ∃ b o, A = some ⟨b, o, none⟩ ∧ F b ∧ ∀ j u, cs[j]? = some u → w.cell? ⟨b, o + k * n + j, none⟩ = some u := by
  obtain ⟨b, o, e, hF, hc⟩ := h.2 (by omega)
  refine ⟨b, o, e, hF, fun j u hu => ?_⟩
  rw [← hcs, List.getElem?_take] at hu
  split at hu
  · rw [List.getElem?_drop] at hu
    rw [Nat.add_assoc]
    exact hc _ _ hu
  · cases hu

attribute [local go_sem] meth_Unstructured

theorem RVAt.form {F : Nat → Prop} {w : World} {r : RV} {cs : List Value} (h : RVAt F w r cs) :
    ∃ (kind n : Int) (f : Nat) (s : ByteArray) (KA : Option Addr) (kl kc : Nat) (LA : Option Addr) (ll lc : Nat), cs = [.int .i64 kind, .int .i64 n, .float .f64 f, .string s, .slice KA kl kc, .slice LA ll lc] := by
  cases h; exact ⟨_, _, _, _, _, _, _, _, _, _, rfl⟩

set_option maxRecDepth 100000 in
set_option maxHeartbeats 400000 in
theorem fromValue_calls {t : T} {v : Value} {w : World} (h : ValAt (Old w) w t v) :
    Calls Tryz.prog 65 #[v] w (GivesRV (fun _ => False) t.toRV w) := by
  obtain ⟨g, u, rfl, hg, hB, hu⟩ := h
  have hgl : g < w.heap.size := hg
  have q0 := hB.cell 0
  simp at q0
  have Hu := hide hu
  clear hB hu hg
  go_enter Tryz.func65, Tryz.ntmps65
  go_wp2_with fail
  refine (Unstructured_calls Hu.out _).mono ?_
  rintro e w1 ⟨rfl, hw1⟩
  have hb1 : Below w.heap.size w w1 := by rw [← hw1]; exact below_two _ _ _
  have hz : Bk w1 w.heap.size 31 #[.int .i64 0, .int .i64 0, .float .f64 0, .string ⟨#[]⟩, .slice none 0 0, .slice none 0 0] := by rw [← hw1]; exact (Bk.new _ _ _).alloc _
  have Hcall := hide (fromTree_calls t w1 u ((Hu.out.keeps (Keeps.below hb1 fun b h => h)).mono fun b h => Nat.lt_of_lt_of_le h hb1.size))
  have Hz := hide (And.intro hz hb1)
  clear hz hb1 hw1
  go_wp2_with fail
  refine Hcall.out.mono ?_
  rintro e w2 ⟨ccs, rfl, hcc, hb2⟩
  have hz2 := Hz.out.1.below hb2 Hz.out.1.lt
  have hbw : Below w.heap.size w w2 := Hz.out.2.trans (hb2.mono Hz.out.2.size)
  obtain ⟨d0, d1, d2, d3, KA, kl, kc, LA, ll, lc, rfl⟩ := hcc.form
  have hcc' := hcc.mono (G := fun b => w.heap.size + 1 ≤ b ∧ b < w2.heap.size) fun b hb => by
    rcases hb with hb | hb
    · exact hb.elim
    · exact ⟨by have := hb.1; have := Hz.out.1.lt; omega, hb.2⟩
  have p0 := hz2.cell 0
  have p1 := hz2.cell 1
  have p2 := hz2.cell 2
  have p3 := hz2.cell 3
  have p4 := hz2.cell 4
  have p5 := hz2.cell 5
  have p6 : ∀ i, w2.frozen? ⟨w.heap.size, i, none⟩ = false := fun i => hz2.free i
  simp at p0 p1 p2 p3 p4 p5
  have Hend := hide (And.intro hcc' (And.intro hz2 hbw))
  clear hcc hcc' hz2 hbw hb2
  go_wp2
  refine bodyPost_ret (results_cell_row rfl _ _ w.heap.size 31 #[.int .i64 d0, .int .i64 d1, .float .f64 d2, .string d3, .slice KA kl kc, .slice LA ll lc] (0, 0) _ rfl (set6_same _ _ _ _ _ _ Hend.out.2.1) Tryz.underlying31 rfl (by kernel_rfl)) rfl ?_
  exact ⟨_, rfl, (Hend.out.1.keeps fun b hb => set6_heap _ _ _ _ _ _ _ _ _ (by have := hb.1; omega)).mono fun b hb => .inr ⟨by have := hb.1; omega, by simpa using hb.2⟩, set6_below _ _ _ _ _ _ Hend.out.2.2 (Nat.le_refl _)⟩

end Go.Proofs.YtajeghkjppkhcaaGreat
