/-
  append of a row that lies somewhere (a nil one too) onto a row of the call's own; blocks that are known whole.
-/
import Derived.Test.YtekaainjpddklaaMem
import Derived.RegionTactic
import Derived.OwnWalk
import Derived.Deep.RegionHeld3
import Derived.BigQuiet
import Derived.Deep.QuietTactic
namespace Go.Proofs.Ytekaainjpddklaa
open Go.RowKit

/-- block g is just these cells, none of them frozen -/
def Bk (w : World) (g : Nat) (t : TypeId) (cs : Array Value) : Prop := w.heap[g]? = some (.cells cs t (0, 0))
section
variable {w w' : World} {g : Nat} {t : TypeId} {cs : Array Value}
theorem Bk.lt (h : Bk w g t cs) : g < w.heap.size := (Array.getElem?_eq_some_iff.1 h).1
theorem Bk.cell (h : Bk w g t cs) (i : Nat) : w.cell? ⟨g, i, none⟩ = cs[i]? := cell_of_row w g i cs t (0, 0) h
theorem Bk.free (h : Bk w g t cs) (i : Nat) : w.frozen? ⟨g, i, none⟩ = false := by unfold Bk at h; simp [World.frozen?, h]
theorem Bk.new (w : World) (t : TypeId) (cs : Array Value) : Bk (w.alloc (.cells cs t)) w.heap.size t cs := heap_alloc_new w _
theorem Bk.alloc (h : Bk w g t cs) (o : Obj) : Bk (w.alloc o) g t cs := (Below.heap_alloc w o g h.lt).trans h
theorem Bk.drewN (h : Bk w g t cs) (n : Nat) : Bk (w.drewN n) g t cs := h
theorem Bk.drew (h : Bk w g t cs) : Bk w.drew g t cs := h
theorem Bk.below {B : Nat} (h : Bk w g t cs) (hb : Below B w w') (hg : g < B) : Bk w' g t cs := (hb.block g hg).trans h
theorem Bk.grown {row : Option Nat} (h : Bk w g t cs) (hb : w.grownBy w' row) (hg : some g ≠ row) : Bk w' g t cs := (hb.block g h.lt hg).trans h
theorem Bk.set_ (h : Bk w g t cs) (i : Nat) (u : Value) : Bk (w.setCell ⟨g, i, none⟩ u) g t (cs.setIfInBounds i u) := by
  unfold Bk at h ⊢
  simp [World.setCell, Array.getElem?_modify, h]
theorem Bk.far (h : Bk w g t cs) {p : Addr} (hp : g ≠ p.block) (u : Value) : Bk (w.setCell p u) g t cs := (Below.heap_setCell w p u g hp).trans h
theorem Bk.ne_ {g' : Nat} {t' : TypeId} {cs' : Array Value} (h : Bk w g t cs) (h' : Bk w g' t' cs') (hne : t ≠ t') : g ≠ g' := by
  rintro rfl
  unfold Bk at h h'
  rw [h] at h'
  injection h' with h'
  injection h' with _ ht
  exact hne ht
theorem own_ne {base : Nat} {e : TypeId} {size n : Nat} {v : Value} {xs : List Value} (h : w.ownsRow base e size v n xs) (hg : Bk w g t cs) (hne : e ≠ t) : some g ≠ v.ownBlock := by
  rcases h.2 with ⟨rfl, _⟩ | ⟨g', cap, cur, rfl, _, hh, _⟩
  · simp [Value.ownBlock]
  · intro he
    have e1 : g = g' := by simpa [Value.ownBlock] using he
    subst e1
    exact Bk.ne_ (t := e) hh hg hne rfl
theorem own_form {base : Nat} {e : TypeId} {size n : Nat} {v : Value} {xs : List Value} (h : w.ownsRow base e size v n xs) : ∃ A c, v = .slice A n c ∧ n ≤ c ∧ c ≤ maxLen := by
  rcases h.2 with ⟨e, h0⟩ | ⟨g, cap, cur, e, _, _, h3, h4, _⟩
  · exact ⟨none, 0, by rw [e, h0], by omega, by unfold maxLen; omega⟩
  · exact ⟨_, cap, e, h3, h4⟩
end

/-- the cells of a block that was just laid -/
theorem cells_at (w : World) (cs : List Value) (t : TypeId) (n : Nat) (h : w.heap.size = n) : ∀ (j : Nat) u, cs[j]? = some u → (w.alloc (.cells cs.toArray t)).cell? ((⟨n, 0, none⟩ : Addr).add j) = some u := by
  subst h
  intro j u hu
  have := (Bk.new w t cs.toArray).cell j
  unfold Addr.add
  split
  · rename_i h0
    subst h0
    rw [this]
    simpa using hu
  · rw [Nat.zero_add, this]
    simpa using hu

section
variable {P : Program} (w : World)
theorem run_append_row (base : Nat) (t ty e : TypeId) (i : TypeInfo) (z : Value) (size bytes : Nat) (ht : P.underlying t = some (.slice e)) (hi : P.info? e = some i) (hz : i.zero = some z)
    (hsize : i.size = size) (hby : i.bytes = bytes) (hzs : z.cells.size = size) (hsz : 0 < size)
    (v : Value) (n : Nat) (xs : List Value) (hown : w.ownsRow base e size v n xs)
    (F : Nat → Prop) (A : Option Addr) (m c : Nat) (news : List Value) (hr : Row F w size A m news) (h1 : ∀ u ∈ news, u.oneCell' = true)
    (hbytes : (n + m) * bytes ≤ 140737488355328) (hb1 : 0 < bytes) (hbase : base ≤ w.heap.size) :
    ∃ v' w', (Builtin.append_ #[t, t] ty #[v, .slice A m c]).run P w = .ok v' w' ∧ w'.ownsRow base e size v' (n + m) (xs ++ news) ∧ w.grownBy w' v.ownBlock ∧ (v'.ownBlock = v.ownBlock ∨ v'.ownBlock = some w.heap.size) := by
  have h63 : n + m ≤ maxLen := by
    have : n + m ≤ (n + m) * bytes := Nat.le_mul_of_pos_right _ hb1
    unfold maxLen
    omega
  by_cases h0 : m = 0
  · subst h0
    have hn : news = [] := List.eq_nil_of_length_eq_zero (by simpa using hr.1)
    subst hn
    cases A with
    | some a =>
      obtain ⟨v', w', q1, q2, q3, _, q5⟩ := run_append_own_at (P := P) w base t ty e i z size bytes ht hi hz hsize hby hzs hsz v n xs hown a 0 c [] (by simp) (by simp) (by simp) h63 hbytes hbase
      exact ⟨v', w', q1, q2, q3, q5⟩
    | none =>
      refine ⟨v, w, ?_, by simpa using hown, World.grownBy.refl w _, .inl rfl⟩
      rcases hown.2 with ⟨rfl, rfl⟩ | ⟨g, cap, cur, rfl, _, _, hnc, _⟩
      · simp [Builtin.append_, run_underlying ht, sizeOf, typeInfo, hi, Builtin.lenOf, Builtin.firstCells]
      · simp [Builtin.append_, run_underlying ht, sizeOf, typeInfo, hi, Builtin.lenOf, Builtin.firstCells, hnc, storeCells]
  · obtain ⟨b, o, rfl, _, hc⟩ := hr.2 (by omega)
    obtain ⟨v', w', q1, q2, q3, _, q5⟩ := run_append_own_at (P := P) w base t ty e i z size bytes ht hi hz hsize hby hzs hsz v n xs hown ⟨b, o, none⟩ m c news hr.1 (fun j u hu => by
      have := hc j u hu
      unfold Addr.add
      split
      · rename_i h; subst h; simpa using this
      · exact this) h1 h63 hbytes hbase
    exact ⟨v', w', q1, q2, q3, q5⟩

theorem wp_append_row {o : Oper} {a : Act} {K : Act → World → Prop} {Q : Exit → Act → World → Prop} (s x : Operand) (t : TypeId)
    (ho : o.op = .call { callee := .builtin .append, args := #[s, x], argTypes := #[t, t] })
    (base : Nat) (e : TypeId) (i : TypeInfo) (z : Value) (size bytes : Nat) (ht : P.underlying t = some (.slice e)) (hi : P.info? e = some i) (hz : i.zero = some z)
    (hsize : i.size = size) (hby : i.bytes = bytes) (hzs : z.cells.size = size) (hsz : 0 < size)
    (v : Value) (n : Nat) (xs : List Value) (hs : a.eval s = v) (hown : w.ownsRow base e size v n xs)
    (F : Nat → Prop) (A : Option Addr) (m c : Nat) (news : List Value) (hx : a.eval x = .slice A m c) (hr : Row F w size A m news) (h1 : ∀ u ∈ news, u.oneCell' = true)
    (hbytes : (n + m) * bytes ≤ 140737488355328) (hb1 : 0 < bytes) (hbase : base ≤ w.heap.size)
    (h : ∀ v' w', w'.ownsRow base e size v' (n + m) (xs ++ news) → w.grownBy w' v.ownBlock → (v'.ownBlock = v.ownBlock ∨ v'.ownBlock = some w.heap.size) → K (a.put o.dst v') w') : o.wp P a w K Q := by
  obtain ⟨v', w', hrun, h2, h3, h4⟩ := run_append_row (P := P) w base t o.type e i z size bytes ht hi hz hsize hby hzs hsz v n xs hown F A m c news hr h1 hbytes hb1 hbase
  unfold Oper.wp execOp
  simp only [ho, resolve, invoke, builtin, Sem.run_bind, Sem.run_pure, Result.andThen_ok, List.map_toArray, List.map_cons, List.map_nil, hs, hx, hrun]
  exact h v' w' h2 h3 h4

theorem wpList_append_row {ops : Array Oper} {rest : List Oper} {o : Oper} {a : Act} {Q : Exit → Act → World → Prop} (hgd : o.guard = none) (s x : Operand) (t : TypeId)
    (ho : o.op = .call { callee := .builtin .append, args := #[s, x], argTypes := #[t, t] })
    (base : Nat) (e : TypeId) (i : TypeInfo) (z : Value) (size bytes : Nat) (ht : P.underlying t = some (.slice e)) (hi : P.info? e = some i) (hz : i.zero = some z)
    (hsize : i.size = size) (hby : i.bytes = bytes) (hzs : z.cells.size = size) (hsz : 0 < size)
    (v : Value) (n : Nat) (xs : List Value) (hs : a.eval s = v) (hown : w.ownsRow base e size v n xs)
    (F : Nat → Prop) (A : Option Addr) (m c : Nat) (news : List Value) (hx : a.eval x = .slice A m c) (hr : Row F w size A m news) (h1 : ∀ u ∈ news, u.oneCell' = true)
    (hbytes : (n + m) * bytes ≤ 140737488355328) (hb1 : 0 < bytes) (hbase : base ≤ w.heap.size)
    (h : ∀ v' w', w'.ownsRow base e size v' (n + m) (xs ++ news) → w.grownBy w' v.ownBlock → (v'.ownBlock = v.ownBlock ∨ v'.ownBlock = some w.heap.size) → wpList P ops Q rest (a.put o.dst v') w') : wpList P ops Q (o :: rest) a w :=
  wpList_plain hgd fun _ hK => wp_append_row w s x t ho base e i z size bytes ht hi hz hsize hby hzs hsz v n xs hs hown F A m c news hx hr h1 hbytes hb1 hbase fun v' w' h2 h3 h4 => hK _ _ (h v' w' h2 h3 h4)

theorem step_append_row {ops : Array Oper} {o : Oper} {a : Act} {K : Act → World → Prop} {Q : Exit → Act → World → Prop} {E : Prop} (hgd : o.guard = none) (s x : Operand) (t : TypeId)
    (ho : o.op = .call { callee := .builtin .append, args := #[s, x], argTypes := #[t, t] })
    (base : Nat) (e : TypeId) (i : TypeInfo) (z : Value) (size bytes : Nat) (ht : P.underlying t = some (.slice e)) (hi : P.info? e = some i) (hz : i.zero = some z)
    (hsize : i.size = size) (hby : i.bytes = bytes) (hzs : z.cells.size = size) (hsz : 0 < size)
    (v : Value) (n : Nat) (xs : List Value) (hs : a.eval s = v) (hown : w.ownsRow base e size v n xs)
    (F : Nat → Prop) (A : Option Addr) (m c : Nat) (news : List Value) (hx : a.eval x = .slice A m c) (hr : Row F w size A m news) (h1 : ∀ u ∈ news, u.oneCell' = true)
    (hbytes : (n + m) * bytes ≤ 140737488355328) (hb1 : 0 < bytes) (hbase : base ≤ w.heap.size)
    (h : ∀ v' w', w'.ownsRow base e size v' (n + m) (xs ++ news) → w.grownBy w' v.ownBlock → (v'.ownBlock = v.ownBlock ∨ v'.ownBlock = some w.heap.size) → K (a.put o.dst v') w') :
    if Region.wanted o (yielded ops a.tmps) = true then Oper.wp P o a w K Q else E := by
  have hw : Region.wanted o (yielded ops a.tmps) = true := by simp [Region.wanted, hgd]
  rw [if_pos hw]
  exact wp_append_row w s x t ho base e i z size bytes ht hi hz hsize hby hzs hsz v n xs hs hown F A m c news hx hr h1 hbytes hb1 hbase h
end

end Go.Proofs.Ytekaainjpddklaa
