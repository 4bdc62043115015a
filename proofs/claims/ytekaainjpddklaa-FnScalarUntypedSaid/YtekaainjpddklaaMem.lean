/-
  What lies in memory: rows of cells, the thin package's values, the package's own trees; that each is kept where the blocks that it lies in are kept.
-/
import Derived.Test.YtekaainjpddklaaTree
import Derived.Test.YtekaainjpddklaaMaps
import Derived.Below
import Derived.Laws.Entries
import Derived.Deep.AppendLies
import Derived.Maps.AppendAt
import Derived.Maps.RangeRun
namespace Go.Proofs.Ytekaainjpddklaa
open Go.RowKit

theorem hide {p : Prop} (h : p) : Hid p := h

/-- a float stored into a cell: as every value of one cell -/
theorem run_store_float (P : Program) (w : World) (a : Addr) (m : Mode) (k : FloatKind) (b : Nat) : (store a (.float k b) m).run P w = stored P w a (.float k b) m := run_store P w a _ m rfl

def R47 : Nat := 140737488351232
def B64 : Nat := 18446744073709551616
def okInt (n : Int) : Prop := -9223372036854775808 ≤ n ∧ n ≤ 9223372036854775807

/-- the blocks of F are in w' as in w -/
def Keeps (F : Nat → Prop) (w w' : World) : Prop := ∀ b, F b → w'.heap[b]? = w.heap[b]?

theorem Keeps.refl (F : Nat → Prop) (w : World) : Keeps F w w := fun _ _ => rfl
theorem Keeps.trans {F : Nat → Prop} {a b c : World} (h : Keeps F a b) (k : Keeps F b c) : Keeps F a c := fun x hx => (k x hx).trans (h x hx)
theorem Keeps.mono {F G : Nat → Prop} {a b : World} (h : Keeps G a b) (hg : ∀ x, F x → G x) : Keeps F a b := fun x hx => h x (hg x hx)
theorem Keeps.below {F : Nat → Prop} {B : Nat} {a b : World} (h : Below B a b) (hF : ∀ x, F x → x < B) : Keeps F a b := fun x hx => h.block x (hF x hx)
theorem Keeps.grown {F : Nat → Prop} {row : Option Nat} {a b : World} (h : a.grownBy b row) (hF : ∀ x, F x → x < a.heap.size ∧ some x ≠ row) : Keeps F a b :=
  fun x hx => h.block x (hF x hx).1 (hF x hx).2
theorem Keeps.alloc {F : Nat → Prop} (w : World) (o : Obj) (hF : ∀ x, F x → x < w.heap.size) : Keeps F w (w.alloc o) := fun x hx => Below.heap_alloc w o x (hF x hx)
theorem Keeps.setCell {F : Nat → Prop} (w : World) (a : Addr) (u : Value) (hF : ∀ x, F x → x ≠ a.block) : Keeps F w (w.setCell a u) := fun x hx => Below.heap_setCell w a u x (hF x hx)

theorem bcell {W w1 : World} {B : Nat} (hb : Below B W w1) : (∀ b o, b < B → w1.cell? ⟨b, o, none⟩ = W.cell? ⟨b, o, none⟩) ∧ (∀ b o, b < B → w1.frozen? ⟨b, o, none⟩ = W.frozen? ⟨b, o, none⟩) :=
  ⟨fun b o h => hb.cell (p := ⟨b, o, none⟩) h, fun b o h => hb.frozen (p := ⟨b, o, none⟩) h⟩
theorem gcell {W w1 : World} {row : Option Nat} (hb : W.grownBy w1 row) : (∀ b o, b < W.heap.size → some b ≠ row → w1.cell? ⟨b, o, none⟩ = W.cell? ⟨b, o, none⟩) ∧ (∀ b o, b < W.heap.size → some b ≠ row → w1.frozen? ⟨b, o, none⟩ = W.frozen? ⟨b, o, none⟩) :=
  ⟨fun b o h h' => hb.cell_far ⟨b, o, none⟩ h h', fun b o h h' => hb.frozen_far ⟨b, o, none⟩ h h'⟩

/-- n elements of 'size' cells lie where A leads, in blocks of F -/
def Row (F : Nat → Prop) (w : World) (size : Nat) (A : Option Addr) (n : Nat) (xs : List Value) : Prop :=
  xs.length = n * size ∧ (0 < n → ∃ b o, A = some ⟨b, o, none⟩ ∧ F b ∧ ∀ j u, xs[j]? = some u → w.cell? ⟨b, o + j, none⟩ = some u)

section
variable {F G : Nat → Prop} {w w' : World} {size n : Nat} {A : Option Addr} {xs : List Value}
theorem Row.keeps (h : Row F w size A n xs) (k : Keeps F w w') : Row F w' size A n xs :=
  ⟨h.1, fun hn => by
    obtain ⟨b, o, e, hF, hc⟩ := h.2 hn
    exact ⟨b, o, e, hF, fun j u hu => (World.cell?_of_block (a := ⟨b, o + j, none⟩) (k b hF)).trans (hc j u hu)⟩⟩
theorem Row.mono (h : Row F w size A n xs) (k : ∀ b, F b → G b) : Row G w size A n xs :=
  ⟨h.1, fun hn => by
    obtain ⟨b, o, e, hF, hc⟩ := h.2 hn
    exact ⟨b, o, e, k b hF, hc⟩⟩
theorem Row.take {m : Nat} (h : Row F w size A n xs) (hm : m ≤ n) : Row F w size A m (xs.take (m * size)) := by
  refine ⟨?_, fun hn => ?_⟩
  · rw [List.length_take, h.1]
    exact Nat.min_eq_left (Nat.mul_le_mul_right _ hm)
  · obtain ⟨b, o, e, hF, hc⟩ := h.2 (by omega)
    refine ⟨b, o, e, hF, fun j u hu => hc j u ?_⟩
    rw [List.getElem?_take] at hu
    split at hu
    · exact hu
    · cases hu
theorem Row.drop {m c : Nat} (h : Row F w size A n xs) (hm : m ≤ n) (hc : n ≤ c) : Row F w size (if c = m then A else A.map (·.add (m * size))) (n - m) (xs.drop (m * size)) := by
  refine ⟨by rw [List.length_drop, h.1, Nat.sub_mul], fun hn => ?_⟩
  obtain ⟨b, o, rfl, hF, hcell⟩ := h.2 (by omega)
  rw [if_neg (by omega)]
  refine ⟨b, o + m * size, ?_, hF, fun j u hu => ?_⟩
  · simp only [Option.map_some, Addr.add]
    split
    · rename_i h0; rw [h0]; rfl
    · rfl
  · rw [List.getElem?_drop] at hu
    rw [Nat.add_assoc]
    exact hcell _ u hu
theorem Row.nil_ : Row F w size A 0 [] := ⟨by simp, fun h => absurd h (by omega)⟩
theorem Row.of_own {base : Nat} {e : TypeId} {c : Nat} (h : w.ownsRow base e size (.slice A n c) n xs) (hF : ∀ g, (Value.slice A n c).ownBlock = some g → F g) : Row F w size A n xs := by
  refine ⟨h.1, fun hn => ?_⟩
  obtain ⟨g, cap, hv, _, _⟩ := h.form hn
  have hA : A = some ⟨g, 0, none⟩ := by injection hv
  subst hA
  refine ⟨g, 0, rfl, hF g rfl, fun j u hu => ?_⟩
  have := h.cells (g := g) rfl j u hu
  unfold Addr.add at this
  split at this
  · rename_i h0; subst h0; simpa using this
  · simpa using this
end

/-- A value of the thin package, as the six cells of its struct. -/
inductive RVAt (F : Nat → Prop) (w : World) : RV → List Value → Prop
  | mk {kind n : Int} {f : Nat} {s : ByteArray} {keys : List ByteArray} {l : List RV} {KA LA : Option Addr} {kc lc : Nat} {xs : List Value} :
    okInt kind → okInt n → f < B64 → s.size ≤ R47 → (∀ k ∈ keys, k.size ≤ R47) → keys.length * 16 ≤ R47 → l.length * 88 ≤ R47 → keys.length ≤ kc → kc ≤ maxLen → l.length ≤ lc → lc ≤ maxLen →
    Row F w 1 KA keys.length (keys.map Value.string) → Row F w 6 LA l.length xs → (∀ i r, l[i]? = some r → RVAt F w r ((xs.drop (i * 6)).take 6)) →
    RVAt F w (.mk kind n f s keys l) [.int .i64 kind, .int .i64 n, .float .f64 f, .string s, .slice KA keys.length kc, .slice LA l.length lc]

section
variable {F G : Nat → Prop} {w w' : World}
theorem RVAt.keeps {r : RV} {cs : List Value} (h : RVAt F w r cs) (k : Keeps F w w') : RVAt F w' r cs := by
  induction h with
  | mk h1 h2 h3 h4 h5 h6 h7 h8 h9 h10 h11 h12 h13 _ ih => exact .mk h1 h2 h3 h4 h5 h6 h7 h8 h9 h10 h11 (h12.keeps k) (h13.keeps k) ih
theorem RVAt.mono {r : RV} {cs : List Value} (h : RVAt F w r cs) (k : ∀ b, F b → G b) : RVAt G w r cs := by
  induction h with
  | mk h1 h2 h3 h4 h5 h6 h7 h8 h9 h10 h11 h12 h13 _ ih => exact .mk h1 h2 h3 h4 h5 h6 h7 h8 h9 h10 h11 (h12.mono k) (h13.mono k) ih
end

/-- A tree of the package, as an interface value. -/
inductive AnyAt (F : Nat → Prop) (w : World) : T → Value → Prop
  | null : AnyAt F w .null .nilIface
  | bool (b : Bool) : AnyAt F w (.bool b) (.iface 4 (.bool b))
  | int {n : Int} : okInt n → AnyAt F w (.int n) (.iface 2 (.int .i64 n))
  | flt {f : Nat} : f < B64 → AnyAt F w (.flt f) (.iface 22 (.float .f64 f))
  | str {s : ByteArray} : s.size ≤ R47 → AnyAt F w (.str s) (.iface 9 (.string s))
  | list {l : List T} {A : Option Addr} {c : Nat} {xs : List Value} : l.length * 16 ≤ R47 → l.length ≤ c → c ≤ maxLen → Row F w 1 A l.length xs →
    (∀ (i : Nat) t u, l[i]? = some t → xs[i]? = some u → AnyAt F w t u) → AnyAt F w (.list l) (.iface 184 (.slice A l.length c))
  | map {l : List (ByteArray × T)} {r : Nat} {val : ByteArray → Value} : l.length * 16 ≤ R47 → (∀ p ∈ l, p.1.size ≤ R47) → Sorted l → F r → MapIs w r (l.map Prod.fst) val →
    (∀ k t, (k, t) ∈ l → AnyAt F w t (val k)) → AnyAt F w (.map l) (.iface 126 (.map (some r)))

section
variable {F G : Nat → Prop} {w w' : World}
theorem AnyAt.keeps {t : T} {u : Value} (h : AnyAt F w t u) (k : Keeps F w w') : AnyAt F w' t u := by
  induction h with
  | null => exact .null
  | bool b => exact .bool b
  | int h => exact .int h
  | flt h => exact .flt h
  | str h => exact .str h
  | list h1 h2 h3 h4 _ ih => exact .list h1 h2 h3 (h4.keeps k) ih
  | map h1 h2 h3 h4 h5 _ ih => exact .map h1 h2 h3 h4 (h5.keep (k _ h4)) ih
theorem AnyAt.mono {t : T} {u : Value} (h : AnyAt F w t u) (k : ∀ b, F b → G b) : AnyAt G w t u := by
  induction h with
  | null => exact .null
  | bool b => exact .bool b
  | int h => exact .int h
  | flt h => exact .flt h
  | str h => exact .str h
  | list h1 h2 h3 h4 _ ih => exact .list h1 h2 h3 (h4.mono k) ih
  | map h1 h2 h3 h4 h5 _ ih => exact .map h1 h2 h3 (k _ h4) h5 ih
end

/-- the structs of the values rs, six cells each -/
def RVs (F : Nat → Prop) (w : World) (rs : List RV) (xs : List Value) : Prop := xs.length = rs.length * 6 ∧ ∀ (i : Nat) r, rs[i]? = some r → RVAt F w r ((xs.drop (i * 6)).take 6)
section
variable {F G : Nat → Prop} {w w' : World}
theorem RVAt.len {r : RV} {cs : List Value} (h : RVAt F w r cs) : cs.length = 6 := by cases h; rfl
theorem RVs.keeps {rs : List RV} {xs : List Value} (h : RVs F w rs xs) (k : Keeps F w w') : RVs F w' rs xs := ⟨h.1, fun i r hr => (h.2 i r hr).keeps k⟩
theorem RVs.mono {rs : List RV} {xs : List Value} (h : RVs F w rs xs) (k : ∀ b, F b → G b) : RVs G w rs xs := ⟨h.1, fun i r hr => (h.2 i r hr).mono k⟩
theorem RVs.nil_ : RVs F w [] [] := ⟨rfl, by simp⟩
theorem RVs.one {r : RV} {cs : List Value} (h : RVAt F w r cs) : RVs F w [r] cs := by
  have hl := h.len
  refine ⟨by simp [hl], fun i r' hr => ?_⟩
  cases i with
  | zero =>
    simp at hr
    subst hr
    rw [Nat.zero_mul, List.drop_zero, List.take_of_length_le (by omega)]
    exact h
  | succ i => simp at hr
theorem RVs.append {rs rs' : List RV} {xs xs' : List Value} (h : RVs F w rs xs) (h' : RVs F w rs' xs') : RVs F w (rs ++ rs') (xs ++ xs') := by
  have l1 := h.1
  have l2 := h'.1
  refine ⟨by simp only [List.length_append]; omega, fun i r hr => ?_⟩
  by_cases hi : i < rs.length
  · rw [List.getElem?_append_left hi] at hr
    have := h.2 i r hr
    rw [List.drop_append_of_le_length (by omega), List.take_append_of_le_length (by simp only [List.length_drop]; omega)]
    exact this
  · rw [List.getElem?_append_right (by omega)] at hr
    have := h'.2 _ r hr
    have e : i * 6 = xs.length + (i - rs.length) * 6 := by omega
    rw [e, List.drop_length_add_append]
    exact this
theorem RVs.take {rs : List RV} {xs : List Value} (h : RVs F w rs xs) (m : Nat) (hm : m ≤ rs.length) : RVs F w (rs.take m) (xs.take (m * 6)) := by
  have l1 := h.1
  refine ⟨by simp only [List.length_take]; omega, fun i r hr => ?_⟩
  have hi : i < m := by
    have := (List.getElem?_eq_some_iff.1 hr).1
    simp only [List.length_take] at this
    omega
  rw [List.getElem?_take, if_pos hi] at hr
  have := h.2 i r hr
  rw [List.drop_take, List.take_take, Nat.min_eq_left (by omega)]
  exact this
theorem RVs.drop {rs : List RV} {xs : List Value} (h : RVs F w rs xs) (m : Nat) : RVs F w (rs.drop m) (xs.drop (m * 6)) := by
  have l1 := h.1
  refine ⟨by simp only [List.length_drop]; omega, fun i r hr => ?_⟩
  rw [List.getElem?_drop] at hr
  have := h.2 _ r hr
  rw [List.drop_drop]
  have e : m * 6 + i * 6 = (m + i) * 6 := by omega
  rw [e]
  exact this
theorem RVs.ones {rs : List RV} {xs : List Value} (h : RVs F w rs xs) : ∀ u ∈ xs, u.oneCell' = true := by
  intro u hu
  obtain ⟨j, hj⟩ := List.getElem?_of_mem hu
  have hjl := (List.getElem?_eq_some_iff.1 hj).1
  have l1 := h.1
  have hi : j / 6 < rs.length := by omega
  have hr := h.2 (j / 6) rs[j / 6] (List.getElem?_eq_getElem hi)
  have hu' : ((xs.drop (j / 6 * 6)).take 6)[j % 6]? = some u := by
    rw [List.getElem?_take, if_pos (by omega), List.getElem?_drop]
    have : j / 6 * 6 + j % 6 = j := by omega
    rw [this]
    exact hj
  have hm := List.mem_of_getElem? hu'
  generalize (xs.drop (j / 6 * 6)).take 6 = cs at hr hm
  generalize rs[j / 6] = r at hr
  cases hr
  simp only [List.mem_cons, List.not_mem_nil, or_false] at hm
  rcases hm with rfl | rfl | rfl | rfl | rfl | rfl <;> rfl
end

/-! new memory -/
/-- the blocks from B on -/
def Fr (B : Nat) (w : World) : Nat → Prop := fun b => B ≤ b ∧ b < w.heap.size
/-- the blocks from B on but for v's own -/
def FrX (B : Nat) (w : World) (v : Value) : Nat → Prop := fun b => B ≤ b ∧ b < w.heap.size ∧ some b ≠ v.ownBlock
/-- all blocks -/
def Old (w : World) : Nat → Prop := fun b => b < w.heap.size

theorem ownsRow_below {w w' : World} {B base : Nat} {e : TypeId} {size n : Nat} {v : Value} {xs : List Value} (h : w.ownsRow base e size v n xs) (hb : Below B w w') (hB : w.heap.size ≤ B) : w'.ownsRow base e size v n xs := by
  obtain ⟨h1, h2⟩ := h
  refine ⟨h1, ?_⟩
  rcases h2 with h2 | ⟨g, cap, cur, hv, hg, hh, r⟩
  · exact Or.inl h2
  · have hlt : g < w.heap.size := (Array.getElem?_eq_some_iff.1 hh).1
    exact Or.inr ⟨g, cap, cur, hv, hg, (hb.block g (by omega)).trans hh, r⟩
theorem grown_size {w w' : World} {row : Option Nat} (h : w.grownBy w' row) : w.heap.size ≤ w'.heap.size := h.size

/-- the six cells of an element of a row of structs of six cells -/
theorem row6_at {F : Nat → Prop} {w : World} {A : Option Addr} {n k : Nat} {xs : List Value} {c0 c1 c2 c3 c4 c5 : Value} (h : Row F w 6 A n xs) (hk : k < n) (hcs : (xs.drop (k * 6)).take 6 = [c0, c1, c2, c3, c4, c5]) :
    ∃ b o, A = some ⟨b, o, none⟩ ∧ F b ∧ w.cell? ⟨b, o + k * 6, none⟩ = some c0 ∧ w.cell? ⟨b, o + k * 6 + 1, none⟩ = some c1 ∧ w.cell? ⟨b, o + k * 6 + 2, none⟩ = some c2 ∧
      w.cell? ⟨b, o + k * 6 + 3, none⟩ = some c3 ∧ w.cell? ⟨b, o + k * 6 + 4, none⟩ = some c4 ∧ w.cell? ⟨b, o + k * 6 + 5, none⟩ = some c5 := by
  obtain ⟨b, o, e, hF, hc⟩ := h.2 (by omega)
  have g : ∀ j u, j < 6 → [c0, c1, c2, c3, c4, c5][j]? = some u → w.cell? ⟨b, o + k * 6 + j, none⟩ = some u := by
    intro j u hj hu
    rw [← hcs, List.getElem?_take, if_pos hj, List.getElem?_drop] at hu
    rw [Nat.add_assoc]
    exact hc _ _ hu
  exact ⟨b, o, e, hF, g 0 _ (by omega) rfl, g 1 _ (by omega) rfl, g 2 _ (by omega) rfl, g 3 _ (by omega) rfl, g 4 _ (by omega) rfl, g 5 _ (by omega) rfl⟩
theorem row1_at {F : Nat → Prop} {w : World} {A : Option Addr} {n k : Nat} {xs : List Value} {u : Value} (h : Row F w 1 A n xs) (hk : k < n) (hu : xs[k]? = some u) :
    ∃ b o, A = some ⟨b, o, none⟩ ∧ F b ∧ w.cell? ⟨b, o + k, none⟩ = some u := by
  obtain ⟨b, o, e, hF, hc⟩ := h.2 (by omega)
  exact ⟨b, o, e, hF, hc _ _ hu⟩

/-- the values us stand for the trees ts -/
def AnysAt (F : Nat → Prop) (w : World) (ts : List T) (us : List Value) : Prop := ∀ (i : Nat) t u, ts[i]? = some t → us[i]? = some u → AnyAt F w t u
theorem AnysAt.keeps {F G : Nat → Prop} {w w' : World} {ts : List T} {us : List Value} (h : AnysAt F w ts us) (k : Keeps F w w') (g : ∀ b, F b → G b) : AnysAt G w' ts us :=
  fun i t u ht hu => ((h i t u ht hu).keeps k).mono g
theorem AnysAt.snoc {F : Nat → Prop} {w : World} {ts : List T} {us : List Value} {t : T} {u : Value} (h : AnysAt F w ts us) (hl : us.length = ts.length) (hu : AnyAt F w t u) : AnysAt F w (ts ++ [t]) (us ++ [u]) := by
  intro i t' u' ht hu'
  rcases Nat.lt_trichotomy i ts.length with hi | hi | hi
  · rw [List.getElem?_append_left hi] at ht
    rw [List.getElem?_append_left (by omega)] at hu'
    exact h i t' u' ht hu'
  · rw [List.getElem?_append_right (by omega)] at ht hu'
    simp [hi, hl] at ht hu'
    subst ht; subst hu'
    exact hu
  · rw [List.getElem?_append_right (by omega)] at ht
    rw [List.getElem?_eq_none (by simp; omega)] at ht
    cases ht

/-- an interface value lies in one cell: as the walk reads it -/
theorem AnyAt.one {F : Nat → Prop} {w : World} {t : T} {u : Value} (h : AnyAt F w t u) : u.cells = #[u] ∧ u.oneCell' = true := by cases h <;> exact ⟨rfl, rfl⟩

/-- a call that makes an interface value for the tree t -/
def GivesAny (t : T) (w : World) (e : Ending) (w' : World) : Prop := ∃ u, e = .returned u ∧ AnyAt (Fr w.heap.size w') w' t u ∧ Below w.heap.size w w'

end Go.Proofs.Ytekaainjpddklaa
