/-
  Several texts in one: SchP, SchM, SchRet, ToRef, ToListType, ToField, ToMap, ToAtom, ToSchema.
-/
import Derived.Test.YtekaainjpddklaaOneP
import Derived.Test.YtekaainjpddklaaListing
import Derived.Test.YtekaainjpddklaaElemM
import Derived.Test.YtekaainjpddklaaField
import Derived.Test.YtekaainjpddklaaToElem
import Derived.Deep.DeepCutAuto
set_option linter.unusedVariables false
set_option linter.unusedSimpArgs false
/-!
  Plain: types, as the thin package writes them (S) and as they are meant (P).
-/

namespace Go.Proofs.Ytekaainjpddklaa

/-- a type, a reference, a list's or map's type, a field, a named type, as they are written -/
inductive S where
  | atom (scalar : ByteArray) (list map : Option S)
  | ref (named : Bool) (name : ByteArray) (atom : S) (rel : ByteArray)
  | list (elem : S) (rel : ByteArray) (keys : List ByteArray)
  | map (fields : List S) (elem : S) (rel : ByteArray)
  | field (name : ByteArray) (type : S) (dflt : Option RV)
  | def_ (name : ByteArray) (atom : S)

/-- the same, as they are meant: no text means none; a default that is null is none -/
inductive P where
  | atom (scalar : Option ByteArray) (list map : Option P)
  | ref (named : Option ByteArray) (inl : P) (rel : Option ByteArray)
  | list (elem : P) (rel : ByteArray) (keys : List ByteArray)
  | map (fields : List P) (elem : P) (rel : ByteArray)
  | field (name : ByteArray) (type : P) (dflt : T)
  | def_ (name : ByteArray) (atom : P)

/-- which of the six -/
inductive K where
  | atom | ref | list | map | field | def_

def nz (s : ByteArray) : Option ByteArray := if s = ⟨#[]⟩ then none else some s
def P.empty : P := .atom none none none
def dfl : Option RV → T
  | none => .null
  | some r => r.tree

mutual
def S.plain : S → P
  | .atom sc l m => .atom (nz sc) (S.plainO l) (S.plainO m)
  | .ref b n a r => if b = true then .ref (some n) P.empty (nz r) else .ref none a.plain (nz r)
  | .list e r ks => .list e.plain r ks
  | .map fs e r => .map (S.plainL fs) e.plain r
  | .field n t d => .field n t.plain (dfl d)
  | .def_ n a => .def_ n a.plain
def S.plainO : Option S → Option P
  | none => none
  | some s => some s.plain
def S.plainL : List S → List P
  | [] => []
  | s :: l => s.plain :: S.plainL l
end

theorem plainO_eq (o : Option S) : S.plainO o = o.map S.plain := by
  cases o <;> simp [S.plainO]
theorem plainL_eq (l : List S) : S.plainL l = l.map S.plain := by
  induction l with
  | nil => simp [S.plainL]
  | cons a l ih => simp [S.plainL, ih]

theorem S.plain_atom (sc : ByteArray) (l m : Option S) : (S.atom sc l m).plain = .atom (nz sc) (l.map S.plain) (m.map S.plain) := by
  rw [S.plain, plainO_eq, plainO_eq]
theorem S.plain_map (fs : List S) (e : S) (r : ByteArray) : (S.map fs e r).plain = .map (fs.map S.plain) e.plain r := by
  rw [S.plain, plainL_eq]

theorem lt_list {fs : List S} {x : S} (h : x ∈ fs) : SizeOf.sizeOf x < SizeOf.sizeOf fs := List.sizeOf_lt_of_mem h

end Go.Proofs.Ytekaainjpddklaa

/-!
  Types in memory: as the thin package's structs (SAt) and as the package's (PAt).
-/

namespace Go.Proofs.Ytekaainjpddklaa
open Go.RowKit

/-- the thin package's structs: Atom (3 cells), Ref (6), ListType (8), MapType (8), FieldType (8), TypeDef (4) -/
inductive SAt (F : Nat → Prop) (w : World) : K → S → List Value → Prop
  | atom {sc : ByteArray} {l m : Option S} {LA MA : Option Addr} {ln lc mn mc : Nat} {xs ys : List Value} : sc.size ≤ R47 → ln * 144 ≤ R47 → ln ≤ lc → lc ≤ maxLen → mn * 144 ≤ R47 → mn ≤ mc → mc ≤ maxLen →
    (ln = 0 ↔ l = none) → (mn = 0 ↔ m = none) → Row F w 8 LA ln xs → Row F w 8 MA mn ys → (∀ x, l = some x → SAt F w .list x (xs.take 8)) → (∀ x, m = some x → SAt F w .map x (ys.take 8)) →
    SAt F w .atom (.atom sc l m) [.string sc, .slice LA ln lc, .slice MA mn mc]
  | ref {b : Bool} {name rel : ByteArray} {a : S} {c0 c1 c2 : Value} : name.size ≤ R47 → rel.size ≤ R47 → SAt F w .atom a [c0, c1, c2] → SAt F w .ref (.ref b name a rel) [.bool b, .string name, c0, c1, c2, .string rel]
  | list {e : S} {rel : ByteArray} {keys : List ByteArray} {c0 c1 c2 c3 c4 c5 : Value} {A : Option Addr} {c : Nat} : SAt F w .ref e [c0, c1, c2, c3, c4, c5] → rel.size ≤ R47 → keys.length * 16 ≤ R47 → (∀ k ∈ keys, k.size ≤ R47) → keys.length ≤ c → c ≤ maxLen →
    Row F w 1 A keys.length (keys.map Value.string) → SAt F w .list (.list e rel keys) [c0, c1, c2, c3, c4, c5, .string rel, .slice A keys.length c]
  | map {fs : List S} {e : S} {rel : ByteArray} {c0 c1 c2 c3 c4 c5 : Value} {A : Option Addr} {c : Nat} {xs : List Value} : fs.length * 144 ≤ R47 → fs.length ≤ c → c ≤ maxLen → Row F w 8 A fs.length xs → (∀ (i : Nat) x, fs[i]? = some x → SAt F w .field x ((xs.drop (i * 8)).take 8)) →
    SAt F w .ref e [c0, c1, c2, c3, c4, c5] → rel.size ≤ R47 → SAt F w .map (.map fs e rel) [.slice A fs.length c, c0, c1, c2, c3, c4, c5, .string rel]
  | field {name : ByteArray} {t : S} {d : Option RV} {c0 c1 c2 c3 c4 c5 : Value} {A : Option Addr} {n c : Nat} {xs : List Value} : name.size ≤ R47 → SAt F w .ref t [c0, c1, c2, c3, c4, c5] → n * 88 ≤ R47 → n ≤ c → c ≤ maxLen → (n = 0 ↔ d = none) → Row F w 6 A n xs →
    (∀ r, d = some r → RVAt F w r (xs.take 6)) → SAt F w .field (.field name t d) [.string name, c0, c1, c2, c3, c4, c5, .slice A n c]
  | def_ {name : ByteArray} {a : S} {c0 c1 c2 : Value} : name.size ≤ R47 → SAt F w .atom a [c0, c1, c2] → SAt F w .def_ (.def_ name a) [.string name, c0, c1, c2]

/-- a pointer to a text, or nil -/
def StrP (F : Nat → Prop) (w : World) (t : TypeId) (o : Option ByteArray) (v : Value) : Prop :=
  (o = none ∧ v = .pointer none) ∨ ∃ s g, o = some s ∧ v = .pointer (some ⟨g, 0, none⟩) ∧ F g ∧ Bk w g t #[.string s] ∧ s.size ≤ R47
/-- a pointer to a struct, or nil -/
def BoxP (F : Nat → Prop) (w : World) (t : TypeId) (o : Option (List Value)) (v : Value) : Prop :=
  (o = none ∧ v = .pointer none) ∨ ∃ cs g, o = some cs ∧ v = .pointer (some ⟨g, 0, none⟩) ∧ F g ∧ Bk w g t cs.toArray

/-- the package's structs: Atom (3 pointers), TypeRef (6), List (8), Map (9), StructField (8), TypeDef (4) -/
inductive PAt (F : Nat → Prop) (w : World) : K → P → List Value → Prop
  | atom {sc : Option ByteArray} {l m : Option P} {v0 v1 v2 : Value} {o1 o2 : Option (List Value)} : sc ≠ some ⟨#[]⟩ → StrP F w 83 sc v0 → BoxP F w 167 o1 v1 → BoxP F w 175 o2 v2 → (l = none ↔ o1 = none) → (m = none ↔ o2 = none) →
    (∀ x cs, l = some x → o1 = some cs → PAt F w .list x cs) → (∀ x cs, m = some x → o2 = some cs → PAt F w .map x cs) → PAt F w .atom (.atom sc l m) [v0, v1, v2]
  | ref {named rel : Option ByteArray} {inl : P} {v0 c0 c1 c2 v1 : Value} : rel ≠ some ⟨#[]⟩ → StrP F w 9 named v0 → (named ≠ none → inl = P.empty) → PAt F w .atom inl [c0, c1, c2] → StrP F w 165 rel v1 → PAt F w .ref (.ref named inl rel) [v0, c0, c1, c2, v1, .bool false]
  | list {e : P} {rel : ByteArray} {keys : List ByteArray} {c0 c1 c2 c3 c4 c5 : Value} {A : Option Addr} {c : Nat} : PAt F w .ref e [c0, c1, c2, c3, c4, c5] → rel.size ≤ R47 → keys.length * 16 ≤ R47 → (∀ k ∈ keys, k.size ≤ R47) → keys.length ≤ c → c ≤ maxLen →
    Row F w 1 A keys.length (keys.map Value.string) → PAt F w .list (.list e rel keys) [c0, c1, c2, c3, c4, c5, .string rel, .slice A keys.length c]
  | map {fs : List P} {e : P} {rel : ByteArray} {c0 c1 c2 c3 c4 c5 : Value} {A : Option Addr} {c : Nat} {xs : List Value} : fs.length * 144 ≤ R47 → fs.length ≤ c → c ≤ maxLen → Row F w 8 A fs.length xs → (∀ (i : Nat) x, fs[i]? = some x → PAt F w .field x ((xs.drop (i * 8)).take 8)) →
    PAt F w .ref e [c0, c1, c2, c3, c4, c5] → rel.size ≤ R47 → PAt F w .map (.map fs e rel) [.slice A fs.length c, .slice none 0 0, c0, c1, c2, c3, c4, c5, .string rel]
  | field {name : ByteArray} {t : P} {d : T} {c0 c1 c2 c3 c4 c5 u : Value} : name.size ≤ R47 → PAt F w .ref t [c0, c1, c2, c3, c4, c5] → d.WS → AnyAt F w d u → PAt F w .field (.field name t d) [.string name, c0, c1, c2, c3, c4, c5, u]
  | def_ {name : ByteArray} {a : P} {c0 c1 c2 : Value} : name.size ≤ R47 → PAt F w .atom a [c0, c1, c2] → PAt F w .def_ (.def_ name a) [.string name, c0, c1, c2]

section
variable {F G : Nat → Prop} {w w' : World}
theorem SAt.keeps {k : K} {s : S} {cs : List Value} (h : SAt F w k s cs) (kp : Keeps F w w') : SAt F w' k s cs := by
  induction h with
  | atom h1 h2 h3 h4 h5 h6 h7 h8 h9 h10 h11 _ _ i1 i2 => exact .atom h1 h2 h3 h4 h5 h6 h7 h8 h9 (h10.keeps kp) (h11.keeps kp) i1 i2
  | ref h1 h2 _ i1 => exact .ref h1 h2 i1
  | list _ h2 h3 h4 h5 h6 h7 i1 => exact .list i1 h2 h3 h4 h5 h6 (h7.keeps kp)
  | map h1 h2 h3 h4 _ _ h7 i1 i2 => exact .map h1 h2 h3 (h4.keeps kp) i1 i2 h7
  | field h1 _ h3 h4 h5 h6 h7 h8 i1 => exact .field h1 i1 h3 h4 h5 h6 (h7.keeps kp) fun r hr => (h8 r hr).keeps kp
  | def_ h1 _ i1 => exact .def_ h1 i1
theorem SAt.mono {k : K} {s : S} {cs : List Value} (h : SAt F w k s cs) (kp : ∀ b, F b → G b) : SAt G w k s cs := by
  induction h with
  | atom h1 h2 h3 h4 h5 h6 h7 h8 h9 h10 h11 _ _ i1 i2 => exact .atom h1 h2 h3 h4 h5 h6 h7 h8 h9 (h10.mono kp) (h11.mono kp) i1 i2
  | ref h1 h2 _ i1 => exact .ref h1 h2 i1
  | list _ h2 h3 h4 h5 h6 h7 i1 => exact .list i1 h2 h3 h4 h5 h6 (h7.mono kp)
  | map h1 h2 h3 h4 _ _ h7 i1 i2 => exact .map h1 h2 h3 (h4.mono kp) i1 i2 h7
  | field h1 _ h3 h4 h5 h6 h7 h8 i1 => exact .field h1 i1 h3 h4 h5 h6 (h7.mono kp) fun r hr => (h8 r hr).mono kp
  | def_ h1 _ i1 => exact .def_ h1 i1
theorem SAt.at_ {k : K} {s : S} {cs : List Value} (h : SAt (Old w) w k s cs) (hb : Below w.heap.size w w') : SAt (Old w') w' k s cs := (h.keeps (Keeps.below hb fun _ h => h)).mono fun _ h => Nat.lt_of_lt_of_le h hb.size

theorem StrP.keeps {t : TypeId} {o : Option ByteArray} {v : Value} (h : StrP F w t o v) (kp : Keeps F w w') : StrP F w' t o v := by
  rcases h with h | ⟨s, g, h1, h2, h3, h4, h5⟩
  · exact .inl h
  · exact .inr ⟨s, g, h1, h2, h3, (kp _ h3).trans h4, h5⟩
theorem StrP.mono {t : TypeId} {o : Option ByteArray} {v : Value} (h : StrP F w t o v) (kp : ∀ b, F b → G b) : StrP G w t o v := by
  rcases h with h | ⟨s, g, h1, h2, h3, h4, h5⟩
  · exact .inl h
  · exact .inr ⟨s, g, h1, h2, kp _ h3, h4, h5⟩
theorem BoxP.keeps {t : TypeId} {o : Option (List Value)} {v : Value} (h : BoxP F w t o v) (kp : Keeps F w w') : BoxP F w' t o v := by
  rcases h with h | ⟨s, g, h1, h2, h3, h4⟩
  · exact .inl h
  · exact .inr ⟨s, g, h1, h2, h3, (kp _ h3).trans h4⟩
theorem BoxP.mono {t : TypeId} {o : Option (List Value)} {v : Value} (h : BoxP F w t o v) (kp : ∀ b, F b → G b) : BoxP G w t o v := by
  rcases h with h | ⟨s, g, h1, h2, h3, h4⟩
  · exact .inl h
  · exact .inr ⟨s, g, h1, h2, kp _ h3, h4⟩
theorem PAt.keeps {k : K} {s : P} {cs : List Value} (h : PAt F w k s cs) (kp : Keeps F w w') : PAt F w' k s cs := by
  induction h with
  | atom h0 h1 h2 h3 h4 h5 _ _ i1 i2 => exact .atom h0 (h1.keeps kp) (h2.keeps kp) (h3.keeps kp) h4 h5 i1 i2
  | ref h0 h1 h2 _ h4 i1 => exact .ref h0 (h1.keeps kp) h2 i1 (h4.keeps kp)
  | list _ h2 h3 h4 h5 h6 h7 i1 => exact .list i1 h2 h3 h4 h5 h6 (h7.keeps kp)
  | map h1 h2 h3 h4 _ _ h7 i1 i2 => exact .map h1 h2 h3 (h4.keeps kp) i1 i2 h7
  | field h1 _ h3 h4 i1 => exact .field h1 i1 h3 (h4.keeps kp)
  | def_ h1 _ i1 => exact .def_ h1 i1
theorem PAt.mono {k : K} {s : P} {cs : List Value} (h : PAt F w k s cs) (kp : ∀ b, F b → G b) : PAt G w k s cs := by
  induction h with
  | atom h0 h1 h2 h3 h4 h5 _ _ i1 i2 => exact .atom h0 (h1.mono kp) (h2.mono kp) (h3.mono kp) h4 h5 i1 i2
  | ref h0 h1 h2 _ h4 i1 => exact .ref h0 (h1.mono kp) h2 i1 (h4.mono kp)
  | list _ h2 h3 h4 h5 h6 h7 i1 => exact .list i1 h2 h3 h4 h5 h6 (h7.mono kp)
  | map h1 h2 h3 h4 _ _ h7 i1 i2 => exact .map h1 h2 h3 (h4.mono kp) i1 i2 h7
  | field h1 _ h3 h4 i1 => exact .field h1 i1 h3 (h4.mono kp)
  | def_ h1 _ i1 => exact .def_ h1 i1
theorem PAt.at_ {k : K} {s : P} {cs : List Value} (h : PAt (Old w) w k s cs) (hb : Below w.heap.size w w') : PAt (Old w') w' k s cs := (h.keeps (Keeps.below hb fun _ h => h)).mono fun _ h => Nat.lt_of_lt_of_le h hb.size
theorem SAt.atom_form {s : S} {cs : List Value} (h : SAt F w .atom s cs) : ∃ (sc : ByteArray) (A : Option Addr) (n c : Nat) (B : Option Addr) (m d : Nat), cs = [.string sc, .slice A n c, .slice B m d] := by
  cases h; exact ⟨_, _, _, _, _, _, _, rfl⟩
theorem SAt.ref_form {s : S} {cs : List Value} (h : SAt F w .ref s cs) : ∃ (b : Bool) (nm sc : ByteArray) (A : Option Addr) (n c : Nat) (B : Option Addr) (m d : Nat) (r : ByteArray), cs = [.bool b, .string nm, .string sc, .slice A n c, .slice B m d, .string r] := by
  cases h with
  | ref _ _ h =>
    obtain ⟨_, _, _, _, _, _, _, e⟩ := h.atom_form
    simp only [List.cons.injEq, and_true] at e
    obtain ⟨rfl, rfl, rfl⟩ := e
    exact ⟨_, _, _, _, _, _, _, _, _, _, rfl⟩
theorem StrP.form {t : TypeId} {o : Option ByteArray} {v : Value} (h : StrP F w t o v) : ∃ x : Option Addr, v = .pointer x := by
  rcases h with ⟨-, h⟩ | ⟨s, g, -, h, -⟩
  · exact ⟨_, h⟩
  · exact ⟨_, h⟩
theorem BoxP.form {t : TypeId} {o : Option (List Value)} {v : Value} (h : BoxP F w t o v) : ∃ x : Option Addr, v = .pointer x := by
  rcases h with ⟨-, h⟩ | ⟨s, g, -, h, -⟩
  · exact ⟨_, h⟩
  · exact ⟨_, h⟩
theorem PAt.atom_form {s : P} {cs : List Value} (h : PAt F w .atom s cs) : ∃ x y z : Option Addr, cs = [.pointer x, .pointer y, .pointer z] := by
  cases h with
  | atom _ h1 h2 h3 =>
    obtain ⟨x, rfl⟩ := h1.form
    obtain ⟨y, rfl⟩ := h2.form
    obtain ⟨z, rfl⟩ := h3.form
    exact ⟨x, y, z, rfl⟩
theorem PAt.ref_form {s : P} {cs : List Value} (h : PAt F w .ref s cs) : ∃ n x y z r : Option Addr, cs = [.pointer n, .pointer x, .pointer y, .pointer z, .pointer r, .bool false] := by
  cases h with
  | ref _ h1 _ h2 h3 =>
    obtain ⟨n, rfl⟩ := h1.form
    obtain ⟨r, rfl⟩ := h3.form
    obtain ⟨x, y, z, e⟩ := h2.atom_form
    simp only [List.cons.injEq, and_true] at e
    obtain ⟨rfl, rfl, rfl⟩ := e
    exact ⟨n, x, y, z, r, rfl⟩
theorem PAt.empty_ : PAt F w .atom P.empty [.pointer none, .pointer none, .pointer none] :=
  .atom (o1 := none) (o2 := none) (by simp) (.inl ⟨rfl, rfl⟩) (.inl ⟨rfl, rfl⟩) (.inl ⟨rfl, rfl⟩) (by simp) (by simp) (by simp) (by simp)
end

/-- a struct of the thin package handed back; its memory is new -/
def GivesS (k : K) (p : P) (w : World) (e : Ending) (w' : World) : Prop := ∃ (s : S) (cs : List Value), s.plain = p ∧ e = .returned (.agg cs.toArray) ∧ SAt (Fr w.heap.size w') w' k s cs ∧ Below w.heap.size w w'
/-- a struct of the package handed back; its memory is new -/
def GivesP (k : K) (p : P) (w : World) (e : Ending) (w' : World) : Prop := ∃ cs : List Value, e = .returned (.agg cs.toArray) ∧ PAt (Fr w.heap.size w') w' k p cs ∧ Below w.heap.size w w'

end Go.Proofs.Ytekaainjpddklaa

/-!
  The endings of functions that hand back a type's struct.
-/

namespace Go.Proofs.Ytekaainjpddklaa
open Go.RowKit

def set3 (w : World) (g : Nat) (c0 c1 c2 : Value) : World := ((w.setCell ⟨g, 0, none⟩ c0).setCell ⟨g, 1, none⟩ c1).setCell ⟨g, 2, none⟩ c2
theorem set3_same {w : World} {g : Nat} {t : TypeId} {a0 a1 a2 : Value} (c0 c1 c2 : Value) (h : Bk w g t #[a0, a1, a2]) : Bk (set3 w g c0 c1 c2) g t #[c0, c1, c2] := by
  have := ((h.set_ 0 c0).set_ 1 c1).set_ 2 c2
  simpa [set3] using this
theorem set3_heap (w : World) (g : Nat) (c0 c1 c2 : Value) (x : Nat) (h : x ≠ g) : (set3 w g c0 c1 c2).heap[x]? = w.heap[x]? := by
  unfold set3
  rw [Below.heap_setCell _ _ _ _ h, Below.heap_setCell _ _ _ _ h, Below.heap_setCell _ _ _ _ h]
theorem set3_size (w : World) (g : Nat) (c0 c1 c2 : Value) : (set3 w g c0 c1 c2).heap.size = w.heap.size := by simp [set3]
theorem set3_below {a w : World} {B g : Nat} (c0 c1 c2 : Value) (h : Below B a w) (hB : B ≤ g) : Below B a (set3 w g c0 c1 c2) := ((h.setCell hB c0).setCell hB c1).setCell hB c2


def set8 (w : World) (g : Nat) (c0 c1 c2 c3 c4 c5 c6 c7 : Value) : World := (((((((w.setCell ⟨g, 0, none⟩ c0).setCell ⟨g, 1, none⟩ c1).setCell ⟨g, 2, none⟩ c2).setCell ⟨g, 3, none⟩ c3).setCell ⟨g, 4, none⟩ c4).setCell ⟨g, 5, none⟩ c5).setCell ⟨g, 6, none⟩ c6).setCell ⟨g, 7, none⟩ c7
theorem set8_same {w : World} {g : Nat} {t : TypeId} {a0 a1 a2 a3 a4 a5 a6 a7 : Value} (c0 c1 c2 c3 c4 c5 c6 c7 : Value) (h : Bk w g t #[a0, a1, a2, a3, a4, a5, a6, a7]) : Bk (set8 w g c0 c1 c2 c3 c4 c5 c6 c7) g t #[c0, c1, c2, c3, c4, c5, c6, c7] := by
  have := (((((((h.set_ 0 c0).set_ 1 c1).set_ 2 c2).set_ 3 c3).set_ 4 c4).set_ 5 c5).set_ 6 c6).set_ 7 c7
  simpa [set8] using this
theorem set8_heap (w : World) (g : Nat) (c0 c1 c2 c3 c4 c5 c6 c7 : Value) (x : Nat) (h : x ≠ g) : (set8 w g c0 c1 c2 c3 c4 c5 c6 c7).heap[x]? = w.heap[x]? := by
  unfold set8
  rw [Below.heap_setCell _ _ _ _ h, Below.heap_setCell _ _ _ _ h, Below.heap_setCell _ _ _ _ h, Below.heap_setCell _ _ _ _ h, Below.heap_setCell _ _ _ _ h, Below.heap_setCell _ _ _ _ h, Below.heap_setCell _ _ _ _ h, Below.heap_setCell _ _ _ _ h]
theorem set8_size (w : World) (g : Nat) (c0 c1 c2 c3 c4 c5 c6 c7 : Value) : (set8 w g c0 c1 c2 c3 c4 c5 c6 c7).heap.size = w.heap.size := by simp [set8]
theorem set8_below {a w : World} {B g : Nat} (c0 c1 c2 c3 c4 c5 c6 c7 : Value) (h : Below B a w) (hB : B ≤ g) : Below B a (set8 w g c0 c1 c2 c3 c4 c5 c6 c7) := (((((((h.setCell hB c0).setCell hB c1).setCell hB c2).setCell hB c3).setCell hB c4).setCell hB c5).setCell hB c6).setCell hB c7


def set9 (w : World) (g : Nat) (c0 c1 c2 c3 c4 c5 c6 c7 c8 : Value) : World := ((((((((w.setCell ⟨g, 0, none⟩ c0).setCell ⟨g, 1, none⟩ c1).setCell ⟨g, 2, none⟩ c2).setCell ⟨g, 3, none⟩ c3).setCell ⟨g, 4, none⟩ c4).setCell ⟨g, 5, none⟩ c5).setCell ⟨g, 6, none⟩ c6).setCell ⟨g, 7, none⟩ c7).setCell ⟨g, 8, none⟩ c8
theorem set9_same {w : World} {g : Nat} {t : TypeId} {a0 a1 a2 a3 a4 a5 a6 a7 a8 : Value} (c0 c1 c2 c3 c4 c5 c6 c7 c8 : Value) (h : Bk w g t #[a0, a1, a2, a3, a4, a5, a6, a7, a8]) : Bk (set9 w g c0 c1 c2 c3 c4 c5 c6 c7 c8) g t #[c0, c1, c2, c3, c4, c5, c6, c7, c8] := by
  have := ((((((((h.set_ 0 c0).set_ 1 c1).set_ 2 c2).set_ 3 c3).set_ 4 c4).set_ 5 c5).set_ 6 c6).set_ 7 c7).set_ 8 c8
  simpa [set9] using this
theorem set9_heap (w : World) (g : Nat) (c0 c1 c2 c3 c4 c5 c6 c7 c8 : Value) (x : Nat) (h : x ≠ g) : (set9 w g c0 c1 c2 c3 c4 c5 c6 c7 c8).heap[x]? = w.heap[x]? := by
  unfold set9
  rw [Below.heap_setCell _ _ _ _ h, Below.heap_setCell _ _ _ _ h, Below.heap_setCell _ _ _ _ h, Below.heap_setCell _ _ _ _ h, Below.heap_setCell _ _ _ _ h, Below.heap_setCell _ _ _ _ h, Below.heap_setCell _ _ _ _ h, Below.heap_setCell _ _ _ _ h, Below.heap_setCell _ _ _ _ h]
theorem set9_size (w : World) (g : Nat) (c0 c1 c2 c3 c4 c5 c6 c7 c8 : Value) : (set9 w g c0 c1 c2 c3 c4 c5 c6 c7 c8).heap.size = w.heap.size := by simp [set9]
theorem set9_below {a w : World} {B g : Nat} (c0 c1 c2 c3 c4 c5 c6 c7 c8 : Value) (h : Below B a w) (hB : B ≤ g) : Below B a (set9 w g c0 c1 c2 c3 c4 c5 c6 c7 c8) := ((((((((h.setCell hB c0).setCell hB c1).setCell hB c2).setCell hB c3).setCell hB c4).setCell hB c5).setCell hB c6).setCell hB c7).setCell hB c8


/-- new memory, but for the result's own block -/
def FrN (B r : Nat) (W : World) : Nat → Prop := fun b => B ≤ b ∧ b ≠ r ∧ b < W.heap.size

theorem ret_TypeRef {fn : Func} {p : Tmp} (hfn : fn.results = #[.cell p 117]) (tmps : Array Value) {w w1 : World} {r : Nat} {s : P} {c0 c1 c2 c3 c4 c5 a0 a1 a2 a3 a4 a5 : Value} (hr : w.heap.size ≤ r) (hR : Bk w1 r 117 #[a0, a1, a2, a3, a4, a5]) (hb : Below w.heap.size w w1)
    (hv : PAt (FrN w.heap.size r w1) w1 .ref s [c0, c1, c2, c3, c4, c5]) (hp : tmps.getD p undef = .pointer (some ⟨r, 0, none⟩)) :
    bodyPost Try.prog fn (GivesP .ref s w) .ret { tmps := tmps, defers := [] } (set6 w1 r c0 c1 c2 c3 c4 c5) := by
  refine bodyPost_ret (results_cell_row hfn _ _ r 117 #[c0, c1, c2, c3, c4, c5] (0, 0) _ hp (set6_same _ _ _ _ _ _ hR) Try.underlying117 rfl (by kernel_rfl)) rfl ?_
  exact ⟨_, rfl, (hv.keeps fun b hb => set6_heap _ _ _ _ _ _ _ _ _ hb.2.1).mono fun b hb => ⟨hb.1, by rw [set6_size]; exact hb.2.2⟩, set6_below _ _ _ _ _ _ hb hr⟩

theorem ret_Atom {fn : Func} {p : Tmp} (hfn : fn.results = #[.cell p 92]) (tmps : Array Value) {w w1 : World} {r : Nat} {s : P} {c0 c1 c2 a0 a1 a2 : Value} (hr : w.heap.size ≤ r) (hR : Bk w1 r 92 #[a0, a1, a2]) (hb : Below w.heap.size w w1)
    (hv : PAt (FrN w.heap.size r w1) w1 .atom s [c0, c1, c2]) (hp : tmps.getD p undef = .pointer (some ⟨r, 0, none⟩)) :
    bodyPost Try.prog fn (GivesP .atom s w) .ret { tmps := tmps, defers := [] } (set3 w1 r c0 c1 c2) := by
  refine bodyPost_ret (results_cell_row hfn _ _ r 92 #[c0, c1, c2] (0, 0) _ hp (set3_same _ _ _ hR) Try.underlying92 rfl (by kernel_rfl)) rfl ?_
  exact ⟨_, rfl, (hv.keeps fun b hb => set3_heap _ _ _ _ _ _ hb.2.1).mono fun b hb => ⟨hb.1, by rw [set3_size]; exact hb.2.2⟩, set3_below _ _ _ hb hr⟩

theorem ret_List {fn : Func} {p : Tmp} (hfn : fn.results = #[.cell p 167]) (tmps : Array Value) {w w1 : World} {r : Nat} {s : P} {c0 c1 c2 c3 c4 c5 c6 c7 a0 a1 a2 a3 a4 a5 a6 a7 : Value} (hr : w.heap.size ≤ r) (hR : Bk w1 r 167 #[a0, a1, a2, a3, a4, a5, a6, a7]) (hb : Below w.heap.size w w1)
    (hv : PAt (FrN w.heap.size r w1) w1 .list s [c0, c1, c2, c3, c4, c5, c6, c7]) (hp : tmps.getD p undef = .pointer (some ⟨r, 0, none⟩)) :
    bodyPost Try.prog fn (GivesP .list s w) .ret { tmps := tmps, defers := [] } (set8 w1 r c0 c1 c2 c3 c4 c5 c6 c7) := by
  refine bodyPost_ret (results_cell_row hfn _ _ r 167 #[c0, c1, c2, c3, c4, c5, c6, c7] (0, 0) _ hp (set8_same _ _ _ _ _ _ _ _ hR) Try.underlying167 rfl (by kernel_rfl)) rfl ?_
  exact ⟨_, rfl, (hv.keeps fun b hb => set8_heap _ _ _ _ _ _ _ _ _ _ _ hb.2.1).mono fun b hb => ⟨hb.1, by rw [set8_size]; exact hb.2.2⟩, set8_below _ _ _ _ _ _ _ _ hb hr⟩

theorem ret_Map {fn : Func} {p : Tmp} (hfn : fn.results = #[.cell p 175]) (tmps : Array Value) {w w1 : World} {r : Nat} {s : P} {c0 c1 c2 c3 c4 c5 c6 c7 c8 a0 a1 a2 a3 a4 a5 a6 a7 a8 : Value} (hr : w.heap.size ≤ r) (hR : Bk w1 r 175 #[a0, a1, a2, a3, a4, a5, a6, a7, a8]) (hb : Below w.heap.size w w1)
    (hv : PAt (FrN w.heap.size r w1) w1 .map s [c0, c1, c2, c3, c4, c5, c6, c7, c8]) (hp : tmps.getD p undef = .pointer (some ⟨r, 0, none⟩)) :
    bodyPost Try.prog fn (GivesP .map s w) .ret { tmps := tmps, defers := [] } (set9 w1 r c0 c1 c2 c3 c4 c5 c6 c7 c8) := by
  refine bodyPost_ret (results_cell_row hfn _ _ r 175 #[c0, c1, c2, c3, c4, c5, c6, c7, c8] (0, 0) _ hp (set9_same _ _ _ _ _ _ _ _ _ hR) Try.underlying175 rfl (by kernel_rfl)) rfl ?_
  exact ⟨_, rfl, (hv.keeps fun b hb => set9_heap _ _ _ _ _ _ _ _ _ _ _ _ hb.2.1).mono fun b hb => ⟨hb.1, by rw [set9_size]; exact hb.2.2⟩, set9_below _ _ _ _ _ _ _ _ _ hb hr⟩

theorem ret_SField {fn : Func} {p : Tmp} (hfn : fn.results = #[.cell p 210]) (tmps : Array Value) {w w1 : World} {r : Nat} {s : P} {c0 c1 c2 c3 c4 c5 c6 c7 a0 a1 a2 a3 a4 a5 a6 a7 : Value} (hr : w.heap.size ≤ r) (hR : Bk w1 r 210 #[a0, a1, a2, a3, a4, a5, a6, a7]) (hb : Below w.heap.size w w1)
    (hv : PAt (FrN w.heap.size r w1) w1 .field s [c0, c1, c2, c3, c4, c5, c6, c7]) (hp : tmps.getD p undef = .pointer (some ⟨r, 0, none⟩)) :
    bodyPost Try.prog fn (GivesP .field s w) .ret { tmps := tmps, defers := [] } (set8 w1 r c0 c1 c2 c3 c4 c5 c6 c7) := by
  refine bodyPost_ret (results_cell_row hfn _ _ r 210 #[c0, c1, c2, c3, c4, c5, c6, c7] (0, 0) _ hp (set8_same _ _ _ _ _ _ _ _ hR) Try.underlying210 rfl (by kernel_rfl)) rfl ?_
  exact ⟨_, rfl, (hv.keeps fun b hb => set8_heap _ _ _ _ _ _ _ _ _ _ _ hb.2.1).mono fun b hb => ⟨hb.1, by rw [set8_size]; exact hb.2.2⟩, set8_below _ _ _ _ _ _ _ _ hb hr⟩

theorem ret_IAtom {fn : Func} {p : Tmp} (hfn : fn.results = #[.cell p 38]) (tmps : Array Value) {w w1 : World} {r : Nat} {s : S} {c0 c1 c2 a0 a1 a2 : Value} {p0 : P} (hpl : s.plain = p0) (hr : w.heap.size ≤ r) (hR : Bk w1 r 38 #[a0, a1, a2]) (hb : Below w.heap.size w w1)
    (hv : SAt (FrN w.heap.size r w1) w1 .atom s [c0, c1, c2]) (hp : tmps.getD p undef = .pointer (some ⟨r, 0, none⟩)) :
    bodyPost Try.prog fn (GivesS .atom p0 w) .ret { tmps := tmps, defers := [] } (set3 w1 r c0 c1 c2) := by
  refine bodyPost_ret (results_cell_row hfn _ _ r 38 #[c0, c1, c2] (0, 0) _ hp (set3_same _ _ _ hR) Try.underlying38 rfl (by kernel_rfl)) rfl ?_
  exact ⟨s, _, hpl, rfl, (hv.keeps fun b hb => set3_heap _ _ _ _ _ _ hb.2.1).mono fun b hb => ⟨hb.1, by rw [set3_size]; exact hb.2.2⟩, set3_below _ _ _ hb hr⟩

theorem ret_IRef {fn : Func} {p : Tmp} (hfn : fn.results = #[.cell p 51]) (tmps : Array Value) {w w1 : World} {r : Nat} {s : S} {c0 c1 c2 c3 c4 c5 a0 a1 a2 a3 a4 a5 : Value} {p0 : P} (hpl : s.plain = p0) (hr : w.heap.size ≤ r) (hR : Bk w1 r 51 #[a0, a1, a2, a3, a4, a5]) (hb : Below w.heap.size w w1)
    (hv : SAt (FrN w.heap.size r w1) w1 .ref s [c0, c1, c2, c3, c4, c5]) (hp : tmps.getD p undef = .pointer (some ⟨r, 0, none⟩)) :
    bodyPost Try.prog fn (GivesS .ref p0 w) .ret { tmps := tmps, defers := [] } (set6 w1 r c0 c1 c2 c3 c4 c5) := by
  refine bodyPost_ret (results_cell_row hfn _ _ r 51 #[c0, c1, c2, c3, c4, c5] (0, 0) _ hp (set6_same _ _ _ _ _ _ hR) Try.underlying51 rfl (by kernel_rfl)) rfl ?_
  exact ⟨s, _, hpl, rfl, (hv.keeps fun b hb => set6_heap _ _ _ _ _ _ _ _ _ hb.2.1).mono fun b hb => ⟨hb.1, by rw [set6_size]; exact hb.2.2⟩, set6_below _ _ _ _ _ _ hb hr⟩

theorem ret_IMap {fn : Func} {p : Tmp} (hfn : fn.results = #[.cell p 109]) (tmps : Array Value) {w w1 : World} {r : Nat} {s : S} {c0 c1 c2 c3 c4 c5 c6 c7 a0 a1 a2 a3 a4 a5 a6 a7 : Value} {p0 : P} (hpl : s.plain = p0) (hr : w.heap.size ≤ r) (hR : Bk w1 r 109 #[a0, a1, a2, a3, a4, a5, a6, a7]) (hb : Below w.heap.size w w1)
    (hv : SAt (FrN w.heap.size r w1) w1 .map s [c0, c1, c2, c3, c4, c5, c6, c7]) (hp : tmps.getD p undef = .pointer (some ⟨r, 0, none⟩)) :
    bodyPost Try.prog fn (GivesS .map p0 w) .ret { tmps := tmps, defers := [] } (set8 w1 r c0 c1 c2 c3 c4 c5 c6 c7) := by
  refine bodyPost_ret (results_cell_row hfn _ _ r 109 #[c0, c1, c2, c3, c4, c5, c6, c7] (0, 0) _ hp (set8_same _ _ _ _ _ _ _ _ hR) Try.underlying109 rfl (by kernel_rfl)) rfl ?_
  exact ⟨s, _, hpl, rfl, (hv.keeps fun b hb => set8_heap _ _ _ _ _ _ _ _ _ _ _ hb.2.1).mono fun b hb => ⟨hb.1, by rw [set8_size]; exact hb.2.2⟩, set8_below _ _ _ _ _ _ _ _ hb hr⟩

theorem ret_IField {fn : Func} {p : Tmp} (hfn : fn.results = #[.cell p 111]) (tmps : Array Value) {w w1 : World} {r : Nat} {s : S} {c0 c1 c2 c3 c4 c5 c6 c7 a0 a1 a2 a3 a4 a5 a6 a7 : Value} {p0 : P} (hpl : s.plain = p0) (hr : w.heap.size ≤ r) (hR : Bk w1 r 111 #[a0, a1, a2, a3, a4, a5, a6, a7]) (hb : Below w.heap.size w w1)
    (hv : SAt (FrN w.heap.size r w1) w1 .field s [c0, c1, c2, c3, c4, c5, c6, c7]) (hp : tmps.getD p undef = .pointer (some ⟨r, 0, none⟩)) :
    bodyPost Try.prog fn (GivesS .field p0 w) .ret { tmps := tmps, defers := [] } (set8 w1 r c0 c1 c2 c3 c4 c5 c6 c7) := by
  refine bodyPost_ret (results_cell_row hfn _ _ r 111 #[c0, c1, c2, c3, c4, c5, c6, c7] (0, 0) _ hp (set8_same _ _ _ _ _ _ _ _ hR) Try.underlying111 rfl (by kernel_rfl)) rfl ?_
  exact ⟨s, _, hpl, rfl, (hv.keeps fun b hb => set8_heap _ _ _ _ _ _ _ _ _ _ _ hb.2.1).mono fun b hb => ⟨hb.1, by rw [set8_size]; exact hb.2.2⟩, set8_below _ _ _ _ _ _ _ _ hb hr⟩

end Go.Proofs.Ytekaainjpddklaa

/-!
  impl.toRef, of what toAtom makes.
-/

namespace Go.Proofs.Ytekaainjpddklaa
open Go.RowKit
attribute [local go_sem] run_store_float

/-- three blocks, each known whole -/
structure Q3 (w : World) (ta tb tc : TypeId) (a b c : Array Value) (W : World) : Prop where
  below : Below w.heap.size w W
  a : Bk W w.heap.size ta a
  b : Bk W (w.heap.size + 1) tb b
  c : Bk W (w.heap.size + 1 + 1) tc c
theorem Q3.call {w W W' : World} {ta tb tc : TypeId} {a b c : Array Value} (h : Q3 w ta tb tc a b c W) (hb : Below W.heap.size W W') : Q3 w ta tb tc a b c W' :=
  ⟨h.below.trans (hb.mono h.below.size), h.a.below hb h.a.lt, h.b.below hb h.b.lt, h.c.below hb h.c.lt⟩
theorem Q3.made (w : World) (ta tb tc : TypeId) (a b c : Array Value) : Q3 w ta tb tc a b c (((w.alloc (.cells a ta)).alloc (.cells b tb)).alloc (.cells c tc)) := by
  have h1 := below_two w (.cells a ta) (.cells b tb)
  have h2 := Bk.new (w.alloc (.cells a ta)) tb b
  have h3 := Bk.new ((w.alloc (.cells a ta)).alloc (.cells b tb)) tc c
  simp only [World.size_alloc] at h2 h3
  exact ⟨h1.trans ((Below.refl _ _).alloc (by simp only [World.size_alloc]; omega) _), ((Bk.new _ _ _).alloc _).alloc _, h2.alloc _, h3⟩

theorem Q3.setC {w W : World} {ta tb tc : TypeId} {a b c : Array Value} (h : Q3 w ta tb tc a b c W) (i : Nat) (u : Value) : Q3 w ta tb tc a b (c.setIfInBounds i u) (W.setCell ⟨w.heap.size + 1 + 1, i, none⟩ u) :=
  ⟨h.below.setCell (by simp only; omega) _, h.a.far (by simp only; omega) _, h.b.far (by simp only; omega) _, h.c.set_ i u⟩
theorem Q3.alloc {w W : World} {ta tb tc : TypeId} {a b c : Array Value} (h : Q3 w ta tb tc a b c W) (o : Obj) : Q3 w ta tb tc a b c (W.alloc o) :=
  h.call ((Below.refl _ _).alloc (Nat.le_refl _) _)

/-- new memory above a block -/
def FrA (B : Nat) (W : World) : Nat → Prop := fun b => B < b ∧ b < W.heap.size

def ToAtomOK (s : S) : Prop := ∀ (w : World) (cs : List Value), SAt (Old w) w .atom s cs → Calls Try.prog 100 #[.agg cs.toArray] w (GivesP .atom s.plain w)
def ToRefOK (s : S) : Prop := ∀ (w : World) (cs : List Value), SAt (Old w) w .ref s cs → Calls Try.prog 72 #[.agg cs.toArray] w (GivesP .ref s.plain w)

theorem toList_ne {s : ByteArray} (h : ¬ s = ⟨#[]⟩) : s.toList.isEmpty = false := by
  cases e : s.toList.isEmpty with
  | false => rfl
  | true =>
    refine absurd ?_ h
    rw [List.isEmpty_iff, ByteArray.toList_eq] at e
    obtain ⟨d⟩ := s
    congr 1
    exact Array.toList_eq_nil_iff.1 e
theorem nz_ne {s : ByteArray} (h : ¬ s = ⟨#[]⟩) : nz s = some s := if_neg h
theorem nz_some (s : ByteArray) : nz s ≠ some ⟨#[]⟩ := by
  unfold nz
  split
  · simp
  · intro e
    exact absurd (Option.some.inj e) (by assumption)

set_option maxRecDepth 100000 in
set_option maxHeartbeats 2000000 in
theorem toRef_of {b : Bool} {name rel : ByteArray} {a : S} (ha : ToAtomOK a) : ToRefOK (.ref b name a rel) := by
  intro w cs h
  cases h with
  | @ref _ _ _ _ a0 a1 a2 h1 h2 h3 =>
  have HA := hide fun (W : World) (hb : Below w.heap.size w W) => ha W _ (h3.at_ hb)
  have h1' : name.size ≤ 140737488351232 := h1
  have h2' : rel.size ≤ 140737488351232 := h2
  obtain ⟨sc, A, n, c, B, m, d, e⟩ := h3.atom_form
  simp only [List.cons.injEq, and_true] at e
  obtain ⟨rfl, rfl, rfl⟩ := e
  obtain ⟨o, ho⟩ : ∃ o, nz rel = o := ⟨_, rfl⟩
  have Ho := hide (And.intro ho (And.intro h1 h2))
  rw [S.plain, ho]
  clear h3 ho h1 h2
  go_enter Try.func72, Try.ntmps72
  go_upto_region 2 with fail
  have st := Q3.made w 51 117 117 #[.bool b, .string name, .string sc, .slice A n c, .slice B m d, .string rel] #[.pointer none, .pointer none, .pointer none, .pointer none, .pointer none, .bool false] #[.pointer none, .pointer none, .pointer none, .pointer none, .pointer none, .bool false]
  generalize World.alloc (World.alloc (World.alloc w _) _) _ = W at st ⊢
  have hgl := st.c.lt
  have hgl0 := st.a.lt
  have hgl1 := st.b.lt
  have fz := st.c.free
  have q0 := st.a.cell 0
  have q1 := st.a.cell 1
  have q2 := st.a.cell 2
  have q3 := st.a.cell 3
  have q4 := st.a.cell 4
  have k0 := st.c.cell 0
  have k1 := st.c.cell 1
  have k2 := st.c.cell 2
  have k3 := st.c.cell 3
  simp at q0 q1 q2 q3 q4 k0 k1 k2 k3
  cases b
  · simp only [Bool.false_eq_true, if_false]
    go_wp2_with fail
    refine (HA.out _ st.below).mono ?_
    rintro e w1 ⟨cs, rfl, hp, hb1⟩
    obtain ⟨x, y, z, rfl⟩ := hp.atom_form
    have st1 := st.call hb1
    have hsz := hb1.size
    have hlt := st.c.lt
    have st2 := ((st1.setC 1 (.pointer x)).setC 2 (.pointer y)).setC 3 (.pointer z)
    simp at st2
    have hp2 : PAt (FrA (w.heap.size + 1 + 1) (((w1.setCell ⟨w.heap.size + 1 + 1, 1, none⟩ (.pointer x)).setCell ⟨w.heap.size + 1 + 1, 2, none⟩ (.pointer y)).setCell ⟨w.heap.size + 1 + 1, 3, none⟩ (.pointer z))) (((w1.setCell ⟨w.heap.size + 1 + 1, 1, none⟩ (.pointer x)).setCell ⟨w.heap.size + 1 + 1, 2, none⟩ (.pointer y)).setCell ⟨w.heap.size + 1 + 1, 3, none⟩ (.pointer z)) .atom a.plain [.pointer x, .pointer y, .pointer z] := by
      refine (hp.keeps fun b hb => ?_).mono fun b hb => ⟨by have := hb.1; omega, by have := hb.2; simpa using this⟩
      have := hb.1
      rw [Below.heap_setCell _ _ _ _ (by simp only; omega), Below.heap_setCell _ _ _ _ (by simp only; omega), Below.heap_setCell _ _ _ _ (by simp only; omega)]
    have hgl := st1.c.lt
    have fz := st1.c.free
    have k0 := st1.c.cell 0
    have k1 := st1.c.cell 1
    have k2 := st1.c.cell 2
    have k3 := st1.c.cell 3
    simp at k0 k1 k2 k3
    have H2 := hide (And.intro st2 hp2)
    clear st st1 hb1 hp st2 hp2 q0 q1 q2 q3 q4
    go_upto_region 6 with fail
    have h2 := H2.out
    clear H2 fz k0 k1 k2 k3 hgl hgl0 hgl1
    generalize World.setCell (World.setCell (World.setCell w1 _ _) _ _) _ _ = W2 at h2 ⊢
    obtain ⟨st2, hp2⟩ := h2
    have hgl := st2.c.lt
    have hgl0 := st2.a.lt
    have hgl1 := st2.b.lt
    have fz := st2.c.free
    have fzb := st2.b.free
    have q5 := st2.a.cell 5
    have k0 := st2.c.cell 0
    have k1 := st2.c.cell 1
    have k2 := st2.c.cell 2
    have k3 := st2.c.cell 3
    have k4 := st2.c.cell 4
    have k5 := st2.c.cell 5
    have r0 := st2.b.cell 0
    have r1 := st2.b.cell 1
    have r2 := st2.b.cell 2
    have r3 := st2.b.cell 3
    have r4 := st2.b.cell 4
    have r5 := st2.b.cell 5
    simp at q5 k0 k1 k2 k3 k4 k5 r0 r1 r2 r3 r4 r5
    by_cases hr : rel = ⟨#[]⟩
    · subst hr
      have H2 := hide (And.intro st2 hp2)
      clear st2 hp2
      go_wp2
      refine ret_TypeRef rfl _ (by omega) H2.out.1.b H2.out.1.below (.ref (by rw [← Ho.out.1]; exact nz_some _) (.inl ⟨rfl, rfl⟩) (by simp) (H2.out.2.mono fun b hb => ⟨by have := hb.1; omega, by have := hb.1; omega, hb.2⟩) (.inl ⟨by rw [← Ho.out.1]; rfl, rfl⟩)) rfl
    · have hrl := toList_ne hr
      have st3 := (st2.setC 4 (.pointer (some ⟨W2.heap.size, 0, none⟩))).alloc (.cells #[.string rel] 165)
      simp at st3
      have hnew : Bk ((W2.setCell ⟨w.heap.size + 1 + 1, 4, none⟩ (.pointer (some ⟨W2.heap.size, 0, none⟩))).alloc (.cells #[.string rel] 165)) W2.heap.size 165 #[.string rel] := by
        have := Bk.new (W2.setCell ⟨w.heap.size + 1 + 1, 4, none⟩ (.pointer (some ⟨W2.heap.size, 0, none⟩))) 165 #[.string rel]
        simpa using this
      have hk : Keeps (FrA (w.heap.size + 1 + 1) W2) W2 ((W2.setCell ⟨w.heap.size + 1 + 1, 4, none⟩ (.pointer (some ⟨W2.heap.size, 0, none⟩))).alloc (.cells #[.string rel] 165)) := by
        intro b hb
        have := hb.1
        have := hb.2
        rw [Below.heap_alloc _ _ _ (by simpa using hb.2), Below.heap_setCell _ _ _ _ (by simp only; omega)]
      have hsz3 : ((W2.setCell ⟨w.heap.size + 1 + 1, 4, none⟩ (.pointer (some ⟨W2.heap.size, 0, none⟩))).alloc (.cells #[.string rel] 165)).heap.size = W2.heap.size + 1 := by simp
      have hg3 : ∀ b, FrA (w.heap.size + 1 + 1) W2 b → FrN w.heap.size (w.heap.size + 1) ((W2.setCell ⟨w.heap.size + 1 + 1, 4, none⟩ (.pointer (some ⟨W2.heap.size, 0, none⟩))).alloc (.cells #[.string rel] 165)) b := fun b hb => ⟨by have := hb.1; omega, by have := hb.1; omega, by rw [hsz3]; have := hb.2; omega⟩
      have hp3 := (hp2.keeps hk).mono hg3
      have H2 := hide (And.intro st3 (And.intro hnew (And.intro hp3 hsz3)))
      have hgq := hgl
      clear hgl0 hgl1 fzb r0 r1 r2 r3 r4 r5
      clear st2 hp2 st3 hnew hk hsz3 hg3 hp3
      go_upto_region 9 with fail
      have h2 := H2.out
      clear H2 hgl fz q5 k0 k1 k2 k3 k4 k5
      generalize hgs : W2.heap.size = gs at *
      clear hgs
      generalize World.alloc (World.setCell W2 _ _) _ = W3 at h2 ⊢
      obtain ⟨st3, hnew, hp3, hsz3⟩ := h2
      have hgl := st3.c.lt
      have hgl1 := st3.b.lt
      have fzb := st3.b.free
      have k0 := st3.c.cell 0
      have k1 := st3.c.cell 1
      have k2 := st3.c.cell 2
      have k3 := st3.c.cell 3
      have k4 := st3.c.cell 4
      have k5 := st3.c.cell 5
      have r0 := st3.b.cell 0
      have r1 := st3.b.cell 1
      have r2 := st3.b.cell 2
      have r3 := st3.b.cell 3
      have r4 := st3.b.cell 4
      have r5 := st3.b.cell 5
      simp at k0 k1 k2 k3 k4 k5 r0 r1 r2 r3 r4 r5
      have H2 := hide (And.intro st3 (And.intro hnew (And.intro hp3 hsz3)))
      clear st3 hnew hp3 hsz3
      go_wp2
      refine ret_TypeRef rfl _ (by omega) H2.out.1.b H2.out.1.below (.ref (by rw [← Ho.out.1]; exact nz_some _) (.inl ⟨rfl, rfl⟩) (by simp) H2.out.2.2.1 (.inr ⟨rel, gs, by rw [← Ho.out.1]; exact nz_ne hr, rfl, ⟨by omega, by omega, by rw [H2.out.2.2.2]; omega⟩, H2.out.2.1, Ho.out.2.2⟩)) rfl
  · simp only [if_true]
    have st2 := (st.setC 0 (.pointer (some ⟨W.heap.size, 0, none⟩))).alloc (.cells #[.string name] 9)
    simp at st2
    have hnew : Bk ((W.setCell ⟨w.heap.size + 1 + 1, 0, none⟩ (.pointer (some ⟨W.heap.size, 0, none⟩))).alloc (.cells #[.string name] 9)) W.heap.size 9 #[.string name] := by
      have := Bk.new (W.setCell ⟨w.heap.size + 1 + 1, 0, none⟩ (.pointer (some ⟨W.heap.size, 0, none⟩))) 9 #[.string name]
      simpa using this
    have hsz2 : ((W.setCell ⟨w.heap.size + 1 + 1, 0, none⟩ (.pointer (some ⟨W.heap.size, 0, none⟩))).alloc (.cells #[.string name] 9)).heap.size = W.heap.size + 1 := by simp
    have H2 := hide (And.intro st2 (And.intro hnew hsz2))
    clear st st2 hnew hsz2 q3 q4 q2
    go_upto_region 6 with fail
    have h2 := H2.out
    clear H2 fz k0 k1 k2 k3 hgl0 hgl1 q0 q1
    generalize hgs : W.heap.size = g0 at *
    clear hgs
    generalize World.alloc (World.setCell W _ _) _ = W2 at h2 ⊢
    obtain ⟨st2, hnew, hsz2⟩ := h2
    have hgl2 := hgl
    clear hgl
    have hp2 : StrP (FrA (w.heap.size + 1 + 1) W2) W2 9 (some name) (.pointer (some ⟨g0, 0, none⟩)) := .inr ⟨name, g0, rfl, rfl, ⟨by omega, by omega⟩, hnew, Ho.out.2.1⟩
    clear hnew hsz2
    have hgl := st2.c.lt
    have hgl0 := st2.a.lt
    have hgl1 := st2.b.lt
    have fz := st2.c.free
    have fzb := st2.b.free
    have q5 := st2.a.cell 5
    have k0 := st2.c.cell 0
    have k1 := st2.c.cell 1
    have k2 := st2.c.cell 2
    have k3 := st2.c.cell 3
    have k4 := st2.c.cell 4
    have k5 := st2.c.cell 5
    have r0 := st2.b.cell 0
    have r1 := st2.b.cell 1
    have r2 := st2.b.cell 2
    have r3 := st2.b.cell 3
    have r4 := st2.b.cell 4
    have r5 := st2.b.cell 5
    simp at q5 k0 k1 k2 k3 k4 k5 r0 r1 r2 r3 r4 r5
    by_cases hr : rel = ⟨#[]⟩
    · subst hr
      have H2 := hide (And.intro st2 hp2)
      clear st2 hp2
      go_wp2
      refine ret_TypeRef rfl _ (by omega) H2.out.1.b H2.out.1.below (.ref (by rw [← Ho.out.1]; exact nz_some _) (H2.out.2.mono fun b hb => ⟨by have := hb.1; omega, by have := hb.1; omega, hb.2⟩) (by intro _; rfl) PAt.empty_ (.inl ⟨by rw [← Ho.out.1]; rfl, rfl⟩)) rfl
    · have hrl := toList_ne hr
      have st3 := (st2.setC 4 (.pointer (some ⟨W2.heap.size, 0, none⟩))).alloc (.cells #[.string rel] 165)
      simp at st3
      have hnew : Bk ((W2.setCell ⟨w.heap.size + 1 + 1, 4, none⟩ (.pointer (some ⟨W2.heap.size, 0, none⟩))).alloc (.cells #[.string rel] 165)) W2.heap.size 165 #[.string rel] := by
        have := Bk.new (W2.setCell ⟨w.heap.size + 1 + 1, 4, none⟩ (.pointer (some ⟨W2.heap.size, 0, none⟩))) 165 #[.string rel]
        simpa using this
      have hk : Keeps (FrA (w.heap.size + 1 + 1) W2) W2 ((W2.setCell ⟨w.heap.size + 1 + 1, 4, none⟩ (.pointer (some ⟨W2.heap.size, 0, none⟩))).alloc (.cells #[.string rel] 165)) := by
        intro b hb
        have := hb.1
        have := hb.2
        rw [Below.heap_alloc _ _ _ (by simpa using hb.2), Below.heap_setCell _ _ _ _ (by simp only; omega)]
      have hsz3 : ((W2.setCell ⟨w.heap.size + 1 + 1, 4, none⟩ (.pointer (some ⟨W2.heap.size, 0, none⟩))).alloc (.cells #[.string rel] 165)).heap.size = W2.heap.size + 1 := by simp
      have hg3 : ∀ b, FrA (w.heap.size + 1 + 1) W2 b → FrN w.heap.size (w.heap.size + 1) ((W2.setCell ⟨w.heap.size + 1 + 1, 4, none⟩ (.pointer (some ⟨W2.heap.size, 0, none⟩))).alloc (.cells #[.string rel] 165)) b := fun b hb => ⟨by have := hb.1; omega, by have := hb.1; omega, by rw [hsz3]; have := hb.2; omega⟩
      have hp3 := (hp2.keeps hk).mono hg3
      have H2 := hide (And.intro st3 (And.intro hnew (And.intro hp3 hsz3)))
      have hgq := hgl
      clear hgl0 hgl1 fzb r0 r1 r2 r3 r4 r5
      clear st2 hp2 st3 hnew hk hsz3 hg3 hp3
      go_upto_region 9 with fail
      have h2 := H2.out
      clear H2 hgl fz q5 k0 k1 k2 k3 k4 k5
      generalize hgs : W2.heap.size = gs at *
      clear hgs
      generalize World.alloc (World.setCell W2 _ _) _ = W3 at h2 ⊢
      obtain ⟨st3, hnew, hp3, hsz3⟩ := h2
      have hgl := st3.c.lt
      have hgl1 := st3.b.lt
      have fzb := st3.b.free
      have k0 := st3.c.cell 0
      have k1 := st3.c.cell 1
      have k2 := st3.c.cell 2
      have k3 := st3.c.cell 3
      have k4 := st3.c.cell 4
      have k5 := st3.c.cell 5
      have r0 := st3.b.cell 0
      have r1 := st3.b.cell 1
      have r2 := st3.b.cell 2
      have r3 := st3.b.cell 3
      have r4 := st3.b.cell 4
      have r5 := st3.b.cell 5
      simp at k0 k1 k2 k3 k4 k5 r0 r1 r2 r3 r4 r5
      have H2 := hide (And.intro st3 (And.intro hnew (And.intro hp3 hsz3)))
      clear st3 hnew hp3 hsz3
      go_wp2
      refine ret_TypeRef rfl _ (by omega) H2.out.1.b H2.out.1.below (.ref (by rw [← Ho.out.1]; exact nz_some _) H2.out.2.2.1 (by intro _; rfl) PAt.empty_ (.inr ⟨rel, gs, by rw [← Ho.out.1]; exact nz_ne hr, rfl, ⟨by omega, by omega, by rw [H2.out.2.2.2]; omega⟩, H2.out.2.1, Ho.out.2.2⟩)) rfl

end Go.Proofs.Ytekaainjpddklaa

/-!
  impl.toListType, of what toRef makes.
-/

namespace Go.Proofs.Ytekaainjpddklaa
open Go.RowKit
attribute [local go_sem] run_store_float

def ToListOK (s : S) : Prop := ∀ (w : World) (cs : List Value), SAt (Old w) w .list s cs → Calls Try.prog 132 #[.agg cs.toArray] w (GivesP .list s.plain w)

/-- two blocks, each known whole -/
structure Q2 (w : World) (ta tb : TypeId) (a b : Array Value) (W : World) : Prop where
  below : Below w.heap.size w W
  a : Bk W w.heap.size ta a
  b : Bk W (w.heap.size + 1) tb b
theorem Q2.call {w W W' : World} {ta tb : TypeId} {a b : Array Value} (h : Q2 w ta tb a b W) (hb : Below W.heap.size W W') : Q2 w ta tb a b W' :=
  ⟨h.below.trans (hb.mono h.below.size), h.a.below hb h.a.lt, h.b.below hb h.b.lt⟩
theorem Q2.made (w : World) (ta tb : TypeId) (a b : Array Value) : Q2 w ta tb a b ((w.alloc (.cells a ta)).alloc (.cells b tb)) := by
  have h2 := Bk.new (w.alloc (.cells a ta)) tb b
  simp only [World.size_alloc] at h2
  exact ⟨below_two w _ _, (Bk.new _ _ _).alloc _, h2⟩

theorem ok_string {l : List ByteArray} : ∀ u ∈ l.map Value.string, u.oneCell' = true := fun u hu => by
  obtain ⟨k, _, rfl⟩ := List.mem_map.1 hu
  rfl

set_option maxRecDepth 100000 in
set_option maxHeartbeats 2000000 in
theorem toListType_of {e : S} {rel : ByteArray} {keys : List ByteArray} (he : ToRefOK e) : ToListOK (.list e rel keys) := by
  intro w cs h
  cases h with
  | @list _ _ _ c0 c1 c2 c3 c4 c5 KA kc h1 h2 h3 h4 h5 h6 h7 =>
  have HE := hide fun (W : World) (hb : Below w.heap.size w W) => he W _ (h1.at_ hb)
  obtain ⟨b, nm, sc, A, n, c, B, m, d, r, e'⟩ := h1.ref_form
  simp only [List.cons.injEq, and_true] at e'
  obtain ⟨rfl, rfl, rfl, rfl, rfl, rfl⟩ := e'
  have h2' : rel.size ≤ 140737488351232 := h2
  have h3' : keys.length * 16 ≤ 140737488351232 := h3
  obtain ⟨i9, hi9, hz9, hs9, hb9⟩ := info_parts str_info
  have H7 := hide (And.intro h7 (And.intro h4 (And.intro h2 (And.intro h5 h3))))
  rw [S.plain]
  clear h1 h2 h3 h4 h5 h7
  go_enter Try.func132, Try.ntmps132
  go_upto_region 1 with fail
  have st := Q2.made w 105 167 #[.bool b, .string nm, .string sc, .slice A n c, .slice B m d, .string r, .string rel, .slice KA keys.length kc] #[.pointer none, .pointer none, .pointer none, .pointer none, .pointer none, .bool false, .string ⟨#[]⟩, .slice none 0 0]
  generalize World.alloc (World.alloc w _) _ = W at st ⊢
  have hS0 : Bk W.drew w.heap.size 105 #[.bool b, .string nm, .string sc, .slice A n c, .slice B m d, .string r, .string rel, .slice KA keys.length kc] := st.a
  obtain ⟨S, hS⟩ : ∃ S, (fun W => Bk W w.heap.size 105 #[.bool b, .string nm, .string sc, .slice A n c, .slice B m d, .string r, .string rel, .slice KA keys.length kc]) = S := ⟨_, rfl⟩
  have hS0 : S W.drew := by rw [← hS]; exact hS0
  refine wp_region_head 8 S (by rfl) (by kernel_rfl) ?_
  refine HT.take 0 (v := ?_) rfl (by kernel_rfl) (fun _ _ _ h => h) (Or.inl ⟨by rfl, ?_⟩) (by assumption) ?_
  rotate_left
  · intro W hSw; rw [← hS] at hSw; have hSw := show Bk W w.heap.size 105 #[.bool b, .string nm, .string sc, .slice A n c, .slice B m d, .string r, .string rel, .slice KA keys.length kc] from hSw; have s0 := hSw.cell 0; have s1 := hSw.cell 1; have s2 := hSw.cell 2; have s3 := hSw.cell 3; have s4 := hSw.cell 4; have s5 := hSw.cell 5; have s6 := hSw.cell 6; have s7 := hSw.cell 7; clear hSw; simp at s0 s1 s2 s3 s4 s5 s6 s7; go_simp; with_reducible rfl
  simp only [Act.put, List.setIfInBounds_toArray, List.set_cons_zero, List.set_cons_succ]
  refine HT.take 1 (v := ?_) rfl (by kernel_rfl) (fun _ _ _ h => h) (Or.inl ⟨by rfl, ?_⟩) (by assumption) ?_
  rotate_left
  · intro W hSw; rw [← hS] at hSw; have hSw := show Bk W w.heap.size 105 #[.bool b, .string nm, .string sc, .slice A n c, .slice B m d, .string r, .string rel, .slice KA keys.length kc] from hSw; have s0 := hSw.cell 0; have s1 := hSw.cell 1; have s2 := hSw.cell 2; have s3 := hSw.cell 3; have s4 := hSw.cell 4; have s5 := hSw.cell 5; have s6 := hSw.cell 6; have s7 := hSw.cell 7; clear hSw; simp at s0 s1 s2 s3 s4 s5 s6 s7; go_simp; with_reducible rfl
  simp only [Act.put, List.setIfInBounds_toArray, List.set_cons_zero, List.set_cons_succ]
  refine HT.take 3 (v := ?_) rfl (by kernel_rfl) (fun _ _ _ h => h) (Or.inl ⟨by rfl, ?_⟩) (by assumption) ?_
  rotate_left
  · intro W hSw; rw [← hS] at hSw; have hSw := show Bk W w.heap.size 105 #[.bool b, .string nm, .string sc, .slice A n c, .slice B m d, .string r, .string rel, .slice KA keys.length kc] from hSw; have s0 := hSw.cell 0; have s1 := hSw.cell 1; have s2 := hSw.cell 2; have s3 := hSw.cell 3; have s4 := hSw.cell 4; have s5 := hSw.cell 5; have s6 := hSw.cell 6; have s7 := hSw.cell 7; clear hSw; simp at s0 s1 s2 s3 s4 s5 s6 s7; go_simp; with_reducible rfl
  simp only [Act.put, List.setIfInBounds_toArray, List.set_cons_zero, List.set_cons_succ]
  refine HT.take 4 (v := ?_) rfl (by kernel_rfl) (fun _ _ _ h => h) (Or.inl ⟨by rfl, ?_⟩) (by assumption) ?_
  rotate_left
  · intro W hSw; rw [← hS] at hSw; have hSw := show Bk W w.heap.size 105 #[.bool b, .string nm, .string sc, .slice A n c, .slice B m d, .string r, .string rel, .slice KA keys.length kc] from hSw; have s0 := hSw.cell 0; have s1 := hSw.cell 1; have s2 := hSw.cell 2; have s3 := hSw.cell 3; have s4 := hSw.cell 4; have s5 := hSw.cell 5; have s6 := hSw.cell 6; have s7 := hSw.cell 7; clear hSw; simp at s0 s1 s2 s3 s4 s5 s6 s7; go_simp; with_reducible rfl
  simp only [Act.put, List.setIfInBounds_toArray, List.set_cons_zero, List.set_cons_succ]
  refine HT.take 5 (v := ?_) rfl (by kernel_rfl) (fun _ _ _ h => h) (Or.inl ⟨by rfl, ?_⟩) (by assumption) ?_
  rotate_left
  · intro W hSw; rw [← hS] at hSw; have hSw := show Bk W w.heap.size 105 #[.bool b, .string nm, .string sc, .slice A n c, .slice B m d, .string r, .string rel, .slice KA keys.length kc] from hSw; have s0 := hSw.cell 0; have s1 := hSw.cell 1; have s2 := hSw.cell 2; have s3 := hSw.cell 3; have s4 := hSw.cell 4; have s5 := hSw.cell 5; have s6 := hSw.cell 6; have s7 := hSw.cell 7; clear hSw; simp at s0 s1 s2 s3 s4 s5 s6 s7; go_simp; with_reducible rfl
  simp only [Act.put, List.setIfInBounds_toArray, List.set_cons_zero, List.set_cons_succ]
  refine HT.take 6 (v := ?_) rfl (by kernel_rfl) (fun _ _ _ h => h) (Or.inl ⟨by rfl, ?_⟩) (by assumption) ?_
  rotate_left
  · intro W hSw; rw [← hS] at hSw; have hSw := show Bk W w.heap.size 105 #[.bool b, .string nm, .string sc, .slice A n c, .slice B m d, .string r, .string rel, .slice KA keys.length kc] from hSw; have s0 := hSw.cell 0; have s1 := hSw.cell 1; have s2 := hSw.cell 2; have s3 := hSw.cell 3; have s4 := hSw.cell 4; have s5 := hSw.cell 5; have s6 := hSw.cell 6; have s7 := hSw.cell 7; clear hSw; simp at s0 s1 s2 s3 s4 s5 s6 s7; go_simp; with_reducible rfl
  simp only [Act.put, List.setIfInBounds_toArray, List.set_cons_zero, List.set_cons_succ]
  refine HT.one 2 rfl (by kernel_rfl) (by rfl) (fun K hK => ?_)
  go_simp
  refine (HE.out W.drew (below_drew st.below)).mono ?_
  rintro e w1 ⟨es, rfl, hp, hb1⟩
  have hb1 : Below W.heap.size W w1 := below_drew' hb1
  have hp : PAt (Fr W.heap.size w1) w1 .ref _ es := hp
  obtain ⟨x0, x1, x2, x3, x4, rfl⟩ := hp.ref_form
  have st1 := st.call hb1
  go_simp
  refine hK.out _ _ (by rw [← hS]; exact st1.a) ?_
  clear hK
  refine HT.one 7 rfl (by kernel_rfl) (by rfl) (fun K hK => ?_)
  refine wp_append_row _ (.const (.slice none 0 0)) (.tmp 9) 23 rfl w1.heap.size 9 i9 _ 1 16 Try.underlying23 hi9 hz9 hs9 hb9 rfl (by omega) _ 0 [] rfl (World.ownsRow_nil _ _ _ _) (Old w) KA keys.length kc (keys.map Value.string) rfl (H7.out.1.keeps (Keeps.below st1.below fun _ h => h)) ok_string (by omega) (by omega) (Nat.le_refl _) ?_
  intro vk w2 hown hg hat
  rw [Nat.zero_add, List.nil_append] at hown
  have hb2 : Below w1.heap.size w1 w2 := (Below.refl _ _).grown hg (Nat.le_refl _) (fun g hg' => by cases hg')
  have st2 := st1.call hb2
  go_simp
  refine hK.out _ _ (by rw [← hS]; exact st2.a) ?_
  clear hK
  refine HT.done (by kernel_rfl) ?_
  simp only [List.drop_succ_cons, List.drop_zero]
  clear hS0 hS
  have hsz1 := hb1.size
  have hlt := hown.lt
  obtain ⟨oA, oc, rfl, hc1, hc2⟩ := own_form hown
  have hlt1 := st.b.lt
  have hv : PAt (FrN w.heap.size (w.heap.size + 1) w2) w2 .list (.list e.plain rel keys) [.pointer x0, .pointer x1, .pointer x2, .pointer x3, .pointer x4, .bool false, .string rel, .slice oA keys.length oc] := by
    refine .list ((hp.keeps (Keeps.below hb2 fun b hb => hb.2)).mono fun b hb => ⟨by have := hb.1; omega, by have := hb.1; omega, Nat.lt_of_lt_of_le hb.2 hb2.size⟩) H7.out.2.2.1 H7.out.2.2.2.2 H7.out.2.1 hc1 hc2 (Row.of_own hown fun g hg => ?_)
    have := hlt g hg
    exact ⟨by omega, by omega, this.2⟩
  have hgl1 := st2.b.lt
  have fzb := st2.b.free
  have r0 := st2.b.cell 0
  have r1 := st2.b.cell 1
  have r2 := st2.b.cell 2
  have r3 := st2.b.cell 3
  have r4 := st2.b.cell 4
  have r5 := st2.b.cell 5
  have r6 := st2.b.cell 6
  have r7 := st2.b.cell 7
  simp at r0 r1 r2 r3 r4 r5 r6 r7
  have H2 := hide (And.intro st2 hv)
  clear st st1 st2 hv hp hown hg hat hb1 hb2 hlt hc1 hc2
  go_wp2
  exact ret_List rfl _ (by omega) H2.out.1.b H2.out.1.below H2.out.2 rfl

end Go.Proofs.Ytekaainjpddklaa

/-!
  impl.toField, of what toRef makes.
-/

namespace Go.Proofs.Ytekaainjpddklaa
open Go.RowKit
attribute [local go_sem] run_store_float

def ToFieldOK (s : S) : Prop := ∀ (w : World) (cs : List Value), SAt (Old w) w .field s cs → Calls Try.prog 143 #[.agg cs.toArray] w (GivesP .field s.plain w)

theorem AnyAt.shape {F : Nat → Prop} {w : World} {t : T} {u : Value} (h : AnyAt F w t u) : u = .nilIface ∨ ∃ t v, u = .iface t v := by cases h <;> first | exact .inl rfl | exact .inr ⟨_, _, rfl⟩

/-- new memory beside a block -/
def FrG (B g : Nat) (W : World) : Nat → Prop := fun b => B < b ∧ b ≠ g ∧ b < W.heap.size
/-- two blocks, and a third that lies somewhere behind them -/
structure QG (w : World) (ta tb tc : TypeId) (a b c : Array Value) (g : Nat) (W : World) : Prop where
  q : Q2 w ta tb a b W
  gb : Bk W g tc c
  lt : w.heap.size + 1 < g
theorem QG.call {w W W' : World} {ta tb tc : TypeId} {a b c : Array Value} {g : Nat} (h : QG w ta tb tc a b c g W) (hb : Below W.heap.size W W') : QG w ta tb tc a b c g W' :=
  ⟨h.q.call hb, h.gb.below hb h.gb.lt, h.lt⟩
theorem QG.setC {w W : World} {ta tb tc : TypeId} {a b c : Array Value} {g : Nat} (h : QG w ta tb tc a b c g W) (i : Nat) (u : Value) : QG w ta tb tc a b (c.setIfInBounds i u) g (W.setCell ⟨g, i, none⟩ u) := by
  have := h.lt
  exact ⟨⟨h.q.below.setCell (by simp only; omega) _, h.q.a.far (by simp only; omega) _, h.q.b.far (by simp only; omega) _⟩, h.gb.set_ i u, h.lt⟩

set_option maxRecDepth 100000 in
set_option maxHeartbeats 2000000 in
theorem toField_of {name : ByteArray} {t : S} {dv : Option RV} (he : ToRefOK t) : ToFieldOK (.field name t dv) := by
  intro w cs h
  cases h with
  | @field _ _ _ c0 c1 c2 c3 c4 c5 DA dn dc xs h1 h2 h3 h4 h5 h6 h7 h8 =>
  have HE := hide fun (W : World) (hb : Below w.heap.size w W) => he W _ (h2.at_ hb)
  obtain ⟨b, nm, sc, A, n, c, B, m, d, r, e'⟩ := h2.ref_form
  simp only [List.cons.injEq, and_true] at e'
  obtain ⟨rfl, rfl, rfl, rfl, rfl, rfl⟩ := e'
  have h1' : name.size ≤ 140737488351232 := h1
  have h3' : dn * 88 ≤ 140737488351232 := h3
  have H7 := hide (And.intro h1 (And.intro h7 (And.intro h8 h6)))
  rw [S.plain]
  clear h1 h2 h3 h6 h7 h8
  go_enter Try.func143, Try.ntmps143
  go_upto_region 1 with fail
  have st := Q2.made w 111 210 #[.string name, .bool b, .string nm, .string sc, .slice A n c, .slice B m d, .string r, .slice DA dn dc] #[.string ⟨#[]⟩, .pointer none, .pointer none, .pointer none, .pointer none, .pointer none, .bool false, .nilIface]
  generalize World.alloc (World.alloc w _) _ = W at st ⊢
  have Hst := hide st
  clear st
  go_cut [3] (fun s wx => ∃ (g : Nat) (x0 x1 x2 x3 x4 : Option Addr), s = .pointer (some ⟨g, 0, none⟩) ∧ QG w 111 210 210 #[.string name, .bool b, .string nm, .string sc, .slice A n c, .slice B m d, .string r, .slice DA dn dc] #[.string ⟨#[]⟩, .pointer none, .pointer none, .pointer none, .pointer none, .pointer none, .bool false, .nilIface] #[.string name, .pointer x0, .pointer x1, .pointer x2, .pointer x3, .pointer x4, .bool false, .nilIface] g wx ∧ PAt (FrG (w.heap.size + 1) g wx) wx .ref t.plain [.pointer x0, .pointer x1, .pointer x2, .pointer x3, .pointer x4, .bool false])
  case first =>
    have hS0 : Bk W.drew w.heap.size 111 #[.string name, .bool b, .string nm, .string sc, .slice A n c, .slice B m d, .string r, .slice DA dn dc] := Hst.out.a
    obtain ⟨S, hS⟩ : ∃ S, (fun W => Bk W w.heap.size 111 #[.string name, .bool b, .string nm, .string sc, .slice A n c, .slice B m d, .string r, .slice DA dn dc]) = S := ⟨_, rfl⟩
    have hS0 : S W.drew := by rw [← hS]; exact hS0
    have hlt1 := Hst.out.b.lt
    refine wp_region_head 7 S (by rfl) (by kernel_rfl) ?_
    refine HT.take 0 (v := ?_) rfl (by kernel_rfl) (fun _ _ _ h => h) (Or.inl ⟨by rfl, ?_⟩) (by assumption) ?_
    rotate_left
    · intro W hSw; rw [← hS] at hSw; have hSw := show Bk W w.heap.size 111 #[.string name, .bool b, .string nm, .string sc, .slice A n c, .slice B m d, .string r, .slice DA dn dc] from hSw; have s0 := hSw.cell 0; have s1 := hSw.cell 1; have s2 := hSw.cell 2; have s3 := hSw.cell 3; have s4 := hSw.cell 4; have s5 := hSw.cell 5; have s6 := hSw.cell 6; have s7 := hSw.cell 7; clear hSw; simp at s0 s1 s2 s3 s4 s5 s6 s7; go_simp; with_reducible rfl
    simp only [Act.put, List.setIfInBounds_toArray, List.set_cons_zero, List.set_cons_succ]
    refine HT.take 1 (v := ?_) rfl (by kernel_rfl) (fun _ _ _ h => h) (Or.inl ⟨by rfl, ?_⟩) (by assumption) ?_
    rotate_left
    · intro W hSw; rw [← hS] at hSw; have hSw := show Bk W w.heap.size 111 #[.string name, .bool b, .string nm, .string sc, .slice A n c, .slice B m d, .string r, .slice DA dn dc] from hSw; have s0 := hSw.cell 0; have s1 := hSw.cell 1; have s2 := hSw.cell 2; have s3 := hSw.cell 3; have s4 := hSw.cell 4; have s5 := hSw.cell 5; have s6 := hSw.cell 6; have s7 := hSw.cell 7; clear hSw; simp at s0 s1 s2 s3 s4 s5 s6 s7; go_simp; with_reducible rfl
    simp only [Act.put, List.setIfInBounds_toArray, List.set_cons_zero, List.set_cons_succ]
    refine HT.take 2 (v := ?_) rfl (by kernel_rfl) (fun _ _ _ h => h) (Or.inl ⟨by rfl, ?_⟩) (by assumption) ?_
    rotate_left
    · intro W hSw; rw [← hS] at hSw; have hSw := show Bk W w.heap.size 111 #[.string name, .bool b, .string nm, .string sc, .slice A n c, .slice B m d, .string r, .slice DA dn dc] from hSw; have s0 := hSw.cell 0; have s1 := hSw.cell 1; have s2 := hSw.cell 2; have s3 := hSw.cell 3; have s4 := hSw.cell 4; have s5 := hSw.cell 5; have s6 := hSw.cell 6; have s7 := hSw.cell 7; clear hSw; simp at s0 s1 s2 s3 s4 s5 s6 s7; go_simp; with_reducible rfl
    simp only [Act.put, List.setIfInBounds_toArray, List.set_cons_zero, List.set_cons_succ]
    refine HT.take 3 (v := ?_) rfl (by kernel_rfl) (fun _ _ _ h => h) (Or.inl ⟨by rfl, ?_⟩) (by assumption) ?_
    rotate_left
    · intro W hSw; rw [← hS] at hSw; have hSw := show Bk W w.heap.size 111 #[.string name, .bool b, .string nm, .string sc, .slice A n c, .slice B m d, .string r, .slice DA dn dc] from hSw; have s0 := hSw.cell 0; have s1 := hSw.cell 1; have s2 := hSw.cell 2; have s3 := hSw.cell 3; have s4 := hSw.cell 4; have s5 := hSw.cell 5; have s6 := hSw.cell 6; have s7 := hSw.cell 7; clear hSw; simp at s0 s1 s2 s3 s4 s5 s6 s7; go_simp; with_reducible rfl
    simp only [Act.put, List.setIfInBounds_toArray, List.set_cons_zero, List.set_cons_succ]
    refine HT.two 4 6 rfl rfl (by kernel_rfl) (by rfl) (by rfl) (fun K hK => ?_) (fun K hK => ?_)
    · go_simp
      refine (HE.out W.drew (below_drew Hst.out.below)).mono ?_
      rintro e w1 ⟨es, rfl, hp, hb1⟩
      have hb1 : Below W.heap.size W w1 := below_drew' hb1
      have hp : PAt (Fr W.heap.size w1) w1 .ref _ es := hp
      obtain ⟨x0, x1, x2, x3, x4, rfl⟩ := hp.ref_form
      have st1 := Hst.out.call hb1
      go_simp
      have hS1 : S w1 := by rw [← hS]; exact st1.a
      refine hK.out _ _ hS1 ?_
      clear hK
      refine HT.take 5 (v := ?_) rfl (by kernel_rfl) (fun _ _ _ h => h) (Or.inl ⟨by rfl, ?_⟩) (by assumption) ?_
      rotate_left
      · intro W hSw; go_simp; with_reducible rfl
      simp only [Act.put, List.setIfInBounds_toArray, List.set_cons_zero, List.set_cons_succ]
      refine HT.one 6 rfl (by kernel_rfl) (by rfl) (fun K hK => ?_)
      go_simp
      refine hK.out _ _ (by rw [← hS]; exact st1.a.alloc _) ?_
      clear hK
      refine HT.done (by kernel_rfl) ?_
      simp only [List.drop_succ_cons, List.drop_zero]
      clear hS0 hS
      have hsz := hb1.size
      have hlt2 := st1.b.lt
      go_wp2_with fail
      go_meet
      refine ⟨w1.heap.size, x0, x1, x2, x3, x4, rfl, ⟨st1.call ((Below.refl _ _).alloc (Nat.le_refl _) _), Bk.new _ _ _, by omega⟩, (hp.keeps (Keeps.alloc _ _ fun x hx => hx.2)).mono fun b hb => ⟨by have := hb.1; omega, by have := hb.2; omega, by rw [World.size_alloc]; have := hb.2; omega⟩⟩
    · go_simp
      refine hK.out _ _ (by rw [← hS]; exact Hst.out.a.alloc _) ?_
      clear hK
      refine HT.one 4 rfl (by kernel_rfl) (by rfl) (fun K hK => ?_)
      go_simp
      have hbA : Below W.heap.size W (W.drew.alloc (.cells #[.string ⟨#[]⟩, .pointer none, .pointer none, .pointer none, .pointer none, .pointer none, .bool false, .nilIface] 210)) := (below_drew (Below.refl _ _)).alloc (Nat.le_refl _) _
      refine (HE.out _ (Hst.out.below.trans (hbA.mono Hst.out.below.size))).mono ?_
      rintro e w1 ⟨es, rfl, hp, hb1⟩
      obtain ⟨x0, x1, x2, x3, x4, rfl⟩ := hp.ref_form
      have st1 := (Hst.out.call hbA).call hb1
      go_simp
      have hS1 : S w1 := by rw [← hS]; exact st1.a
      refine hK.out _ _ hS1 ?_
      clear hK
      refine HT.take 5 (v := ?_) rfl (by kernel_rfl) (fun _ _ _ h => h) (Or.inl ⟨by rfl, ?_⟩) (by assumption) ?_
      rotate_left
      · intro W hSw; go_simp; with_reducible rfl
      simp only [Act.put, List.setIfInBounds_toArray, List.set_cons_zero, List.set_cons_succ]
      refine HT.done (by kernel_rfl) ?_
      simp only [List.drop_succ_cons, List.drop_zero]
      clear hS0 hS
      have hg : Bk w1 W.heap.size 210 #[.string ⟨#[]⟩, .pointer none, .pointer none, .pointer none, .pointer none, .pointer none, .bool false, .nilIface] := (Bk.new W.drew _ _).below hb1 (by rw [World.size_alloc]; exact Nat.lt_succ_self _)
      have hgl := hg.lt
      have fz := hg.free
      have r0 := hg.cell 0
      have r1 := hg.cell 1
      have r2 := hg.cell 2
      have r3 := hg.cell 3
      have r4 := hg.cell 4
      have r5 := hg.cell 5
      have r6 := hg.cell 6
      have r7 := hg.cell 7
      simp at r0 r1 r2 r3 r4 r5 r6 r7
      have hs8 := set8_same (.string name) (.pointer x0) (.pointer x1) (.pointer x2) (.pointer x3) (.pointer x4) (.bool false) .nilIface hg
      have hh8 := set8_heap w1 W.heap.size (.string name) (.pointer x0) (.pointer x1) (.pointer x2) (.pointer x3) (.pointer x4) (.bool false) .nilIface
      have hb8 := set8_below (.string name) (.pointer x0) (.pointer x1) (.pointer x2) (.pointer x3) (.pointer x4) (.bool false) .nilIface st1.below (Nat.le_of_lt (Nat.lt_trans (Nat.lt_succ_self _) hlt1))
      have hz8 := set8_size w1 W.heap.size (.string name) (.pointer x0) (.pointer x1) (.pointer x2) (.pointer x3) (.pointer x4) (.bool false) .nilIface
      have hfin : QG w 111 210 210 #[.string name, .bool b, .string nm, .string sc, .slice A n c, .slice B m d, .string r, .slice DA dn dc] #[.string ⟨#[]⟩, .pointer none, .pointer none, .pointer none, .pointer none, .pointer none, .bool false, .nilIface] #[.string name, .pointer x0, .pointer x1, .pointer x2, .pointer x3, .pointer x4, .bool false, .nilIface] W.heap.size (set8 w1 W.heap.size (.string name) (.pointer x0) (.pointer x1) (.pointer x2) (.pointer x3) (.pointer x4) (.bool false) .nilIface) :=
        ⟨⟨hb8, (hh8 _ (by omega)).trans st1.a, (hh8 _ (by omega)).trans st1.b⟩, hs8, hlt1⟩
      have hfp : PAt (FrG (w.heap.size + 1) W.heap.size (set8 w1 W.heap.size (.string name) (.pointer x0) (.pointer x1) (.pointer x2) (.pointer x3) (.pointer x4) (.bool false) .nilIface)) (set8 w1 W.heap.size (.string name) (.pointer x0) (.pointer x1) (.pointer x2) (.pointer x3) (.pointer x4) (.bool false) .nilIface) .ref t.plain [.pointer x0, .pointer x1, .pointer x2, .pointer x3, .pointer x4, .bool false] := by
        have hlo : ∀ b, Fr (W.drew.alloc (.cells #[.string ⟨#[]⟩, .pointer none, .pointer none, .pointer none, .pointer none, .pointer none, .bool false, .nilIface] 210)).heap.size w1 b → W.heap.size + 1 ≤ b := fun b hb => by
          have := hb.1
          rw [World.size_alloc] at this
          exact this
        exact (hp.keeps fun b hb => hh8 b (by have := hlo b hb; omega)).mono fun b hb => ⟨by have := hlo b hb; omega, by have := hlo b hb; omega, by rw [hz8]; exact hb.2⟩
      have Hfin := hide (And.intro hfin hfp)
      clear hs8 hh8 hb8 hz8 hfin hfp hg st1 hp hbA hb1
      go_wp2_with fail
      go_meet
      exact ⟨W.heap.size, x0, x1, x2, x3, x4, rfl, Hfin.out.1, Hfin.out.2⟩
  case rest =>
    obtain ⟨g, x0, x1, x2, x3, x4, rfl, hq, hp⟩ := hcut
    clear Hst HE
    by_cases hd : dn = 0
    · have hdv := H7.out.2.2.2.1 hd
      subst hd hdv
      have hgl := hq.gb.lt
      have hgl0 := hq.q.a.lt
      have hgl1 := hq.q.b.lt
      have fzb := hq.q.b.free
      have q7 := hq.q.a.cell 7
      have k0 := hq.gb.cell 0
      have k1 := hq.gb.cell 1
      have k2 := hq.gb.cell 2
      have k3 := hq.gb.cell 3
      have k4 := hq.gb.cell 4
      have k5 := hq.gb.cell 5
      have k6 := hq.gb.cell 6
      have k7 := hq.gb.cell 7
      have r0 := hq.q.b.cell 0
      have r1 := hq.q.b.cell 1
      have r2 := hq.q.b.cell 2
      have r3 := hq.q.b.cell 3
      have r4 := hq.q.b.cell 4
      have r5 := hq.q.b.cell 5
      have r6 := hq.q.b.cell 6
      have r7 := hq.q.b.cell 7
      simp at q7 k0 k1 k2 k3 k4 k5 k6 k7 r0 r1 r2 r3 r4 r5 r6 r7
      have H2 := hide (And.intro hq hp)
      clear hq hp
      go_wp2
      have hlt := H2.out.1.lt
      exact ret_SField rfl _ (by omega) H2.out.1.q.b H2.out.1.q.below (.field H7.out.1 (H2.out.2.mono fun b hb => ⟨by have := hb.1; omega, by have := hb.1; omega, hb.2.2⟩) .null .null) rfl
    · obtain ⟨rv, rfl⟩ : ∃ rv, dv = some rv := by
        cases dv with
        | none => exact absurd (H7.out.2.2.2.2 rfl) hd
        | some rv => exact ⟨rv, rfl⟩
      have hrv := H7.out.2.2.1 rv rfl
      obtain ⟨z0, z1, z2, z3, zA, zn, zc, yA, yn, yc, ez⟩ := hrv.form
      have hrow := H7.out.2.1
      obtain ⟨kb, ko, rfl, hF, hc0, hc1, hc2, hc3, hc4, hc5⟩ := row6_at (k := 0) hrow (by omega) (by rw [Nat.zero_mul, List.drop_zero]; exact ez)
      have hkb : kb < w.heap.size := hF
      rw [ez] at hrv
      rw [Nat.zero_mul, Nat.add_zero] at hc0 hc1 hc2 hc3 hc4 hc5
      have ec := (bcell hq.q.below).1
      rw [← ec _ _ hkb] at hc0 hc1 hc2 hc3 hc4 hc5
      have hgl := hq.gb.lt
      have hgl0 := hq.q.a.lt
      have hgl1 := hq.q.b.lt
      have q7 := hq.q.a.cell 7
      simp at q7
      have hdz : (0 : Int) < (dn : Int) := by omega
      have HP := hide (plain_calls rv wc _ (hrv.at_ hq.q.below))
      have H2 := hide (And.intro hq hp)
      clear hq hp hrv ez hrow hF ec
      go_wp2_with fail
      refine HP.out.mono ?_
      rintro e w1 ⟨u, rfl, hu, hb1⟩
      obtain rfl | ⟨ti, ui, rfl⟩ : u = .nilIface ∨ ∃ t v, u = .iface t v := hu.shape
      · have hq1 := (H2.out.1.call hb1).setC 7 .nilIface
        simp at hq1
        have hp1 := H2.out.2
        have hsz := hb1.size
        have hh7 := fun b (hb : b ≠ g) => Below.heap_setCell w1 ⟨g, 7, none⟩ .nilIface b hb
        have hz7 : (w1.setCell ⟨g, 7, none⟩ .nilIface).heap.size = w1.heap.size := by simp
        have hp2 : PAt (FrN w.heap.size (w.heap.size + 1) (w1.setCell ⟨g, 7, none⟩ .nilIface)) (w1.setCell ⟨g, 7, none⟩ .nilIface) .ref t.plain [.pointer x0, .pointer x1, .pointer x2, .pointer x3, .pointer x4, .bool false] :=
          ((hp1.keeps (Keeps.below hb1 fun b hb => hb.2.2)).keeps fun b hb => hh7 b hb.2.1).mono fun b hb => ⟨by have := hb.1; omega, by have := hb.1; omega, by rw [hz7]; have := hb.2.2; omega⟩
        have hu2 : AnyAt (FrN w.heap.size (w.heap.size + 1) (w1.setCell ⟨g, 7, none⟩ .nilIface)) (w1.setCell ⟨g, 7, none⟩ .nilIface) rv.tree .nilIface :=
          (hu.keeps fun b hb => hh7 b (by have := hb.1; omega)).mono fun b hb => ⟨by have := hb.1; omega, by have := hb.1; omega, by rw [hz7]; exact hb.2⟩
        have hglx := (H2.out.1.call hb1).gb.lt
        have fz := (H2.out.1.call hb1).gb.free
        have k7 := (H2.out.1.call hb1).gb.cell 7
        simp at k7
        have H3 := hide (And.intro hq1 (And.intro hp2 hu2))
        clear hq1 hp1 hp2 hu2 hu hb1 hh7 hz7 hc0 hc1 hc2 hc3 hc4 hc5 q7
        go_upto_region 4 with fail
        have h3 := H3.out
        clear H3 H2 HP fz k7 hgl hgl0 hgl1 hglx hsz
        generalize World.setCell w1 _ _ = W2 at h3 ⊢
        obtain ⟨hq, hp, hu⟩ := h3
        have hgl := hq.gb.lt
        have hgl1 := hq.q.b.lt
        have fzb := hq.q.b.free
        have k0 := hq.gb.cell 0
        have k1 := hq.gb.cell 1
        have k2 := hq.gb.cell 2
        have k3 := hq.gb.cell 3
        have k4 := hq.gb.cell 4
        have k5 := hq.gb.cell 5
        have k6 := hq.gb.cell 6
        have k7 := hq.gb.cell 7
        have r0 := hq.q.b.cell 0
        have r1 := hq.q.b.cell 1
        have r2 := hq.q.b.cell 2
        have r3 := hq.q.b.cell 3
        have r4 := hq.q.b.cell 4
        have r5 := hq.q.b.cell 5
        have r6 := hq.q.b.cell 6
        have r7 := hq.q.b.cell 7
        simp at k0 k1 k2 k3 k4 k5 k6 k7 r0 r1 r2 r3 r4 r5 r6 r7
        have H2 := hide (And.intro hq (And.intro hp hu))
        clear hq hp hu
        go_wp2
        exact ret_SField rfl _ (by omega) H2.out.1.q.b H2.out.1.q.below (.field H7.out.1 H2.out.2.1 (tree_ws rv) H2.out.2.2) rfl
      · have hq1 := (H2.out.1.call hb1).setC 7 (.iface ti ui)
        simp at hq1
        have hp1 := H2.out.2
        have hsz := hb1.size
        have hh7 := fun b (hb : b ≠ g) => Below.heap_setCell w1 ⟨g, 7, none⟩ (.iface ti ui) b hb
        have hz7 : (w1.setCell ⟨g, 7, none⟩ (.iface ti ui)).heap.size = w1.heap.size := by simp
        have hp2 : PAt (FrN w.heap.size (w.heap.size + 1) (w1.setCell ⟨g, 7, none⟩ (.iface ti ui))) (w1.setCell ⟨g, 7, none⟩ (.iface ti ui)) .ref t.plain [.pointer x0, .pointer x1, .pointer x2, .pointer x3, .pointer x4, .bool false] :=
          ((hp1.keeps (Keeps.below hb1 fun b hb => hb.2.2)).keeps fun b hb => hh7 b hb.2.1).mono fun b hb => ⟨by have := hb.1; omega, by have := hb.1; omega, by rw [hz7]; have := hb.2.2; omega⟩
        have hu2 : AnyAt (FrN w.heap.size (w.heap.size + 1) (w1.setCell ⟨g, 7, none⟩ (.iface ti ui))) (w1.setCell ⟨g, 7, none⟩ (.iface ti ui)) rv.tree (.iface ti ui) :=
          (hu.keeps fun b hb => hh7 b (by have := hb.1; omega)).mono fun b hb => ⟨by have := hb.1; omega, by have := hb.1; omega, by rw [hz7]; exact hb.2⟩
        have hglx := (H2.out.1.call hb1).gb.lt
        have fz := (H2.out.1.call hb1).gb.free
        have k7 := (H2.out.1.call hb1).gb.cell 7
        simp at k7
        have H3 := hide (And.intro hq1 (And.intro hp2 hu2))
        clear hq1 hp1 hp2 hu2 hu hb1 hh7 hz7 hc0 hc1 hc2 hc3 hc4 hc5 q7
        go_upto_region 4 with fail
        have h3 := H3.out
        clear H3 H2 HP fz k7 hgl hgl0 hgl1 hglx hsz
        generalize World.setCell w1 _ _ = W2 at h3 ⊢
        obtain ⟨hq, hp, hu⟩ := h3
        have hgl := hq.gb.lt
        have hgl1 := hq.q.b.lt
        have fzb := hq.q.b.free
        have k0 := hq.gb.cell 0
        have k1 := hq.gb.cell 1
        have k2 := hq.gb.cell 2
        have k3 := hq.gb.cell 3
        have k4 := hq.gb.cell 4
        have k5 := hq.gb.cell 5
        have k6 := hq.gb.cell 6
        have k7 := hq.gb.cell 7
        have r0 := hq.q.b.cell 0
        have r1 := hq.q.b.cell 1
        have r2 := hq.q.b.cell 2
        have r3 := hq.q.b.cell 3
        have r4 := hq.q.b.cell 4
        have r5 := hq.q.b.cell 5
        have r6 := hq.q.b.cell 6
        have r7 := hq.q.b.cell 7
        simp at k0 k1 k2 k3 k4 k5 k6 k7 r0 r1 r2 r3 r4 r5 r6 r7
        have H2 := hide (And.intro hq (And.intro hp hu))
        clear hq hp hu
        go_wp2
        exact ret_SField rfl _ (by omega) H2.out.1.q.b H2.out.1.q.below (.field H7.out.1 H2.out.2.1 (tree_ws rv) H2.out.2.2) rfl

end Go.Proofs.Ytekaainjpddklaa

/-!
  impl.toMap, of what toRef and toField make.
-/

namespace Go.Proofs.Ytekaainjpddklaa
open Go.RowKit
attribute [local go_sem] run_store_float

theorem QG.grown {w W W' : World} {ta tb tc : TypeId} {a b c : Array Value} {g B : Nat} {row : Option Nat} (h : QG w ta tb tc a b c g W) (hg : W.grownBy W' row) (hr : ∀ k, row = some k → B ≤ k) (hB : g < B) : QG w ta tb tc a b c g W' := by
  have hlt := h.lt
  have hne : ∀ x, x < B → some x ≠ row := fun x hx e => by have := hr x e.symm; omega
  exact ⟨⟨h.q.below.grown hg h.q.below.size fun k e => by have := hr k e; omega, h.q.a.grown hg (hne _ (by omega)), h.q.b.grown hg (hne _ (by omega))⟩, h.gb.grown hg (hne _ hB), hlt⟩

def ToMapOK (s : S) : Prop := ∀ (w : World) (cs : List Value), SAt (Old w) w .map s cs → Calls Try.prog 133 #[.agg cs.toArray] w (GivesP .map s.plain w)

section
variable {F : Nat → Prop} {w : World}
theorem SAt.field_form {s : Ytekaainjpddklaa.S} {cs : List Value} (h : SAt F w .field s cs) : ∃ (nm : ByteArray) (b : Bool) (n sc : ByteArray) (A : Option Addr) (k c : Nat) (B : Option Addr) (m d : Nat) (r : ByteArray) (D : Option Addr) (e f : Nat), cs = [.string nm, .bool b, .string n, .string sc, .slice A k c, .slice B m d, .string r, .slice D e f] := by
  cases h with
  | field _ h =>
    obtain ⟨_, _, _, _, _, _, _, _, _, _, e⟩ := h.ref_form
    simp only [List.cons.injEq, and_true] at e
    obtain ⟨rfl, rfl, rfl, rfl, rfl, rfl⟩ := e
    exact ⟨_, _, _, _, _, _, _, _, _, _, _, _, _, _, rfl⟩
theorem PAt.field_form {s : P} {cs : List Value} (h : PAt F w .field s cs) : ∃ (nm : ByteArray) (n x y z r : Option Addr) (u : Value), cs = [.string nm, .pointer n, .pointer x, .pointer y, .pointer z, .pointer r, .bool false, u] ∧ (u = .nilIface ∨ ∃ t v, u = .iface t v) := by
  cases h with
  | field _ h _ hu =>
    obtain ⟨_, _, _, _, _, e⟩ := h.ref_form
    simp only [List.cons.injEq, and_true] at e
    obtain ⟨rfl, rfl, rfl, rfl, rfl, rfl⟩ := e
    exact ⟨_, _, _, _, _, _, _, rfl, hu.shape⟩
theorem Row.of_bk {g n size : Nat} {cs : List Value} {t : TypeId} (h : Bk w g t cs.toArray) (hl : cs.length = n * size) (hF : F g) : Row F w size (some ⟨g, 0, none⟩) n cs :=
  ⟨hl, fun _ => ⟨g, 0, rfl, hF, fun j u hu => by rw [Nat.zero_add, h.cell]; simpa using hu⟩⟩
end

/-- a struct appended to a row of structs -/
theorem cells_step {α : Type} {n m B : Nat} {e : TypeId} {Q : (Nat → Prop) → World → α → List Value → Prop} (qk : ∀ {F : Nat → Prop} {w w' : World} {a : α} {cs : List Value}, Q F w a cs → Keeps F w w' → Q F w' a cs) (qm : ∀ {F G : Nat → Prop} {w : World} {a : α} {cs : List Value}, Q F w a cs → (∀ b, F b → G b) → Q G w a cs)
    {wr w1 w2 : World} {L : List α} {a : α} {out out' : Value} {us cs : List Value} {o2 : Obj} (hown : wr.ownsRow B e n out m us) (hus : Cells n (Q (FrX B wr out) wr) L us) (hB : B ≤ wr.heap.size)
    (hv : Q (Fr wr.heap.size w1) w1 a cs) (hl : cs.length = n) (hb1 : Below wr.heap.size wr w1) (hg2 : (w1.alloc o2).grownBy w2 out.ownBlock) (hat : out'.ownBlock = out.ownBlock ∨ out'.ownBlock = some (w1.alloc o2).heap.size) :
    Cells n (Q (FrX B w2 out') w2) (L ++ [a]) (us ++ cs) ∧ B ≤ w2.heap.size := by
  have s1 := hb1.size
  have s2 := hg2.size
  simp only [World.size_alloc] at s2
  have hlt := hown.lt
  have k2 : Keeps (FrX B wr out) wr w2 := by
    rintro b ⟨q1, q2, q3⟩
    rw [hg2.block b (by simp only [World.size_alloc]; omega) q3, Below.heap_alloc _ _ _ (by omega), hb1.block b q2]
  have g2 : ∀ b, FrX B wr out b → FrX B w2 out' b := by
    rintro b ⟨q1, q2, q3⟩
    refine ⟨q1, by omega, ?_⟩
    rcases hat with e | e <;> rw [e]
    · exact q3
    · simp only [World.size_alloc, ne_eq, Option.some.injEq]; omega
  have k3 : Keeps (Fr wr.heap.size w1) w1 w2 := by
    rintro b ⟨q1, q2⟩
    rw [hg2.block b (by simp only [World.size_alloc]; omega) (fun e => by have := (hlt b e.symm).2; omega), Below.heap_alloc _ _ _ q2]
  have g3 : ∀ b, Fr wr.heap.size w1 b → FrX B w2 out' b := by
    rintro b ⟨q1, q2⟩
    refine ⟨by omega, by omega, ?_⟩
    rcases hat with e | e <;> rw [e]
    · intro e'; have := (hlt b e'.symm).2; omega
    · simp only [World.size_alloc, ne_eq, Option.some.injEq]; omega
  exact ⟨(hus.mono fun a cs h => qm (qk h k2) g2).append (Cells.one (qm (qk hv k3) g3) hl), by omega⟩

theorem sfield_info : (Try.prog.info? 210).map (fun i => (i.zero, i.size, i.bytes)) = some (some (.agg #[.string ⟨#[]⟩, .pointer none, .pointer none, .pointer none, .pointer none, .pointer none, .bool false, .nilIface]), 8, 80) := by kernel_rfl

/-- at the head of a round of toMap -/
def MInv (w : World) (box zero : Array Value) (rest : Value → Array Value) (g B0 : Nat) (W0 : World) (L : List P) (s : Value) (W : World) : Prop :=
  ∃ (k : Nat) (out : Value) (us : List Value), s = .int .i64 (k : Int) ∧ k ≤ L.length ∧ QG w 109 175 175 box zero (rest out) g W ∧ W.ownsRow B0 210 8 out k us ∧ Cells 8 (PAt (FrX B0 W out) W .field) (L.take k) us ∧
    Keeps (FrG (w.heap.size + 1) g W0) W0 W ∧ B0 ≤ W.heap.size

set_option maxRecDepth 100000 in
set_option maxHeartbeats 4000000 in
theorem toMap_of {fs : List Ytekaainjpddklaa.S} {t : Ytekaainjpddklaa.S} {rel : ByteArray} (he : ToRefOK t) (hf : ∀ x ∈ fs, ToFieldOK x) : ToMapOK (.map fs t rel) := by
  intro w cs h
  cases h with
  | @map _ _ _ c0 c1 c2 c3 c4 c5 FA fc xs h1 h2 h3 h4 h5 h6 h7 =>
  have HE := hide fun (W : World) (hb : Below w.heap.size w W) => he W _ (h6.at_ hb)
  obtain ⟨b, nm, sc, A, n, c, B, m, d, r, e'⟩ := h6.ref_form
  simp only [List.cons.injEq, and_true] at e'
  obtain ⟨rfl, rfl, rfl, rfl, rfl, rfl⟩ := e'
  have h1' : fs.length * 144 ≤ 140737488351232 := h1
  have h7' : rel.size ≤ 140737488351232 := h7
  have H7 := hide (And.intro h7 (And.intro h1 (And.intro h4 h5)))
  have HF := hide hf
  rw [Ytekaainjpddklaa.S.plain_map]
  obtain ⟨i9, hi9, hz9, hs9, hb9⟩ := info_parts sfield_info
  clear h1 h4 h5 h6 h7 hf he
  go_enter Try.func133, Try.ntmps133
  go_upto_region 1 with fail
  have st := Q2.made w 109 175 #[.slice FA fs.length fc, .bool b, .string nm, .string sc, .slice A n c, .slice B m d, .string r, .string rel] #[.slice none 0 0, .slice none 0 0, .pointer none, .pointer none, .pointer none, .pointer none, .pointer none, .bool false, .string ⟨#[]⟩]
  generalize World.alloc (World.alloc w _) _ = W at st ⊢
  have Hst := hide st
  clear st
  go_cut [3] (fun s wx => ∃ (g : Nat) (x0 x1 x2 x3 x4 : Option Addr), s = .pointer (some ⟨g, 0, none⟩) ∧ QG w 109 175 175 #[.slice FA fs.length fc, .bool b, .string nm, .string sc, .slice A n c, .slice B m d, .string r, .string rel] #[.slice none 0 0, .slice none 0 0, .pointer none, .pointer none, .pointer none, .pointer none, .pointer none, .bool false, .string ⟨#[]⟩] #[.slice none 0 0, .slice none 0 0, .pointer x0, .pointer x1, .pointer x2, .pointer x3, .pointer x4, .bool false, .string rel] g wx ∧ PAt (FrG (w.heap.size + 1) g wx) wx .ref t.plain [.pointer x0, .pointer x1, .pointer x2, .pointer x3, .pointer x4, .bool false])
  case first =>
    have hS0 : Bk W.drew w.heap.size 109 #[.slice FA fs.length fc, .bool b, .string nm, .string sc, .slice A n c, .slice B m d, .string r, .string rel] := Hst.out.a
    obtain ⟨S, hS⟩ : ∃ S, (fun W => Bk W w.heap.size 109 #[.slice FA fs.length fc, .bool b, .string nm, .string sc, .slice A n c, .slice B m d, .string r, .string rel]) = S := ⟨_, rfl⟩
    have hS0 : S W.drew := by rw [← hS]; exact hS0
    have hlt1 := Hst.out.b.lt
    refine wp_region_head 7 S (by rfl) (by kernel_rfl) ?_
    refine HT.take 0 (v := ?_) rfl (by kernel_rfl) (fun _ _ _ h => h) (Or.inl ⟨by rfl, ?_⟩) (by assumption) ?_
    rotate_left
    · intro W hSw; rw [← hS] at hSw; have hSw := show Bk W w.heap.size 109 #[.slice FA fs.length fc, .bool b, .string nm, .string sc, .slice A n c, .slice B m d, .string r, .string rel] from hSw; have s0 := hSw.cell 0; have s1 := hSw.cell 1; have s2 := hSw.cell 2; have s3 := hSw.cell 3; have s4 := hSw.cell 4; have s5 := hSw.cell 5; have s6 := hSw.cell 6; have s7 := hSw.cell 7; clear hSw; simp at s0 s1 s2 s3 s4 s5 s6 s7; go_simp; with_reducible rfl
    simp only [Act.put, List.setIfInBounds_toArray, List.set_cons_zero, List.set_cons_succ]
    refine HT.take 1 (v := ?_) rfl (by kernel_rfl) (fun _ _ _ h => h) (Or.inl ⟨by rfl, ?_⟩) (by assumption) ?_
    rotate_left
    · intro W hSw; rw [← hS] at hSw; have hSw := show Bk W w.heap.size 109 #[.slice FA fs.length fc, .bool b, .string nm, .string sc, .slice A n c, .slice B m d, .string r, .string rel] from hSw; have s0 := hSw.cell 0; have s1 := hSw.cell 1; have s2 := hSw.cell 2; have s3 := hSw.cell 3; have s4 := hSw.cell 4; have s5 := hSw.cell 5; have s6 := hSw.cell 6; have s7 := hSw.cell 7; clear hSw; simp at s0 s1 s2 s3 s4 s5 s6 s7; go_simp; with_reducible rfl
    simp only [Act.put, List.setIfInBounds_toArray, List.set_cons_zero, List.set_cons_succ]
    refine HT.take 3 (v := ?_) rfl (by kernel_rfl) (fun _ _ _ h => h) (Or.inl ⟨by rfl, ?_⟩) (by assumption) ?_
    rotate_left
    · intro W hSw; rw [← hS] at hSw; have hSw := show Bk W w.heap.size 109 #[.slice FA fs.length fc, .bool b, .string nm, .string sc, .slice A n c, .slice B m d, .string r, .string rel] from hSw; have s0 := hSw.cell 0; have s1 := hSw.cell 1; have s2 := hSw.cell 2; have s3 := hSw.cell 3; have s4 := hSw.cell 4; have s5 := hSw.cell 5; have s6 := hSw.cell 6; have s7 := hSw.cell 7; clear hSw; simp at s0 s1 s2 s3 s4 s5 s6 s7; go_simp; with_reducible rfl
    simp only [Act.put, List.setIfInBounds_toArray, List.set_cons_zero, List.set_cons_succ]
    refine HT.take 4 (v := ?_) rfl (by kernel_rfl) (fun _ _ _ h => h) (Or.inl ⟨by rfl, ?_⟩) (by assumption) ?_
    rotate_left
    · intro W hSw; rw [← hS] at hSw; have hSw := show Bk W w.heap.size 109 #[.slice FA fs.length fc, .bool b, .string nm, .string sc, .slice A n c, .slice B m d, .string r, .string rel] from hSw; have s0 := hSw.cell 0; have s1 := hSw.cell 1; have s2 := hSw.cell 2; have s3 := hSw.cell 3; have s4 := hSw.cell 4; have s5 := hSw.cell 5; have s6 := hSw.cell 6; have s7 := hSw.cell 7; clear hSw; simp at s0 s1 s2 s3 s4 s5 s6 s7; go_simp; with_reducible rfl
    simp only [Act.put, List.setIfInBounds_toArray, List.set_cons_zero, List.set_cons_succ]
    refine HT.two 2 6 rfl rfl (by kernel_rfl) (by rfl) (by rfl) (fun K hK => ?_) (fun K hK => ?_)
    · go_simp
      refine (HE.out W.drew (below_drew Hst.out.below)).mono ?_
      rintro e w1 ⟨es, rfl, hp, hb1⟩
      have hb1 : Below W.heap.size W w1 := below_drew' hb1
      have hp : PAt (Fr W.heap.size w1) w1 .ref _ es := hp
      obtain ⟨x0, x1, x2, x3, x4, rfl⟩ := hp.ref_form
      have st1 := Hst.out.call hb1
      go_simp
      have hS1 : S w1 := by rw [← hS]; exact st1.a
      refine hK.out _ _ hS1 ?_
      clear hK
      refine HT.take 5 (v := ?_) rfl (by kernel_rfl) (fun _ _ _ h => h) (Or.inl ⟨by rfl, ?_⟩) (by assumption) ?_
      rotate_left
      · intro W hSw; go_simp; with_reducible rfl
      simp only [Act.put, List.setIfInBounds_toArray, List.set_cons_zero, List.set_cons_succ]
      refine HT.one 6 rfl (by kernel_rfl) (by rfl) (fun K hK => ?_)
      go_simp
      refine hK.out _ _ (by rw [← hS]; exact st1.a.alloc _) ?_
      clear hK
      refine HT.done (by kernel_rfl) ?_
      simp only [List.drop_succ_cons, List.drop_zero]
      clear hS0 hS
      have hsz := hb1.size
      have hlt2 := st1.b.lt
      go_wp2_with fail
      go_meet
      refine ⟨w1.heap.size, x0, x1, x2, x3, x4, rfl, ⟨st1.call ((Below.refl _ _).alloc (Nat.le_refl _) _), Bk.new _ _ _, by omega⟩, (hp.keeps (Keeps.alloc _ _ fun x hx => hx.2)).mono fun b hb => ⟨by have := hb.1; omega, by have := hb.2; omega, by rw [World.size_alloc]; have := hb.2; omega⟩⟩
    · go_simp
      refine hK.out _ _ (by rw [← hS]; exact Hst.out.a.alloc _) ?_
      clear hK
      refine HT.one 2 rfl (by kernel_rfl) (by rfl) (fun K hK => ?_)
      go_simp
      have hbA : Below W.heap.size W (W.drew.alloc (.cells #[.slice none 0 0, .slice none 0 0, .pointer none, .pointer none, .pointer none, .pointer none, .pointer none, .bool false, .string ⟨#[]⟩] 175)) := (below_drew (Below.refl _ _)).alloc (Nat.le_refl _) _
      refine (HE.out _ (Hst.out.below.trans (hbA.mono Hst.out.below.size))).mono ?_
      rintro e w1 ⟨es, rfl, hp, hb1⟩
      obtain ⟨x0, x1, x2, x3, x4, rfl⟩ := hp.ref_form
      have st1 := (Hst.out.call hbA).call hb1
      go_simp
      have hS1 : S w1 := by rw [← hS]; exact st1.a
      refine hK.out _ _ hS1 ?_
      clear hK
      refine HT.take 5 (v := ?_) rfl (by kernel_rfl) (fun _ _ _ h => h) (Or.inl ⟨by rfl, ?_⟩) (by assumption) ?_
      rotate_left
      · intro W hSw; go_simp; with_reducible rfl
      simp only [Act.put, List.setIfInBounds_toArray, List.set_cons_zero, List.set_cons_succ]
      refine HT.done (by kernel_rfl) ?_
      simp only [List.drop_succ_cons, List.drop_zero]
      clear hS0 hS
      have hg : Bk w1 W.heap.size 175 #[.slice none 0 0, .slice none 0 0, .pointer none, .pointer none, .pointer none, .pointer none, .pointer none, .bool false, .string ⟨#[]⟩] := (Bk.new W.drew _ _).below hb1 (by rw [World.size_alloc]; exact Nat.lt_succ_self _)
      have hgl := hg.lt
      have fz := hg.free
      have r0 := hg.cell 0
      have r1 := hg.cell 1
      have r2 := hg.cell 2
      have r3 := hg.cell 3
      have r4 := hg.cell 4
      have r5 := hg.cell 5
      have r6 := hg.cell 6
      have r7 := hg.cell 7
      have r8 := hg.cell 8
      simp at r0 r1 r2 r3 r4 r5 r6 r7 r8
      have hs8 := set9_same (.slice none 0 0) (.slice none 0 0) (.pointer x0) (.pointer x1) (.pointer x2) (.pointer x3) (.pointer x4) (.bool false) (.string rel) hg
      have hh8 := set9_heap w1 W.heap.size (.slice none 0 0) (.slice none 0 0) (.pointer x0) (.pointer x1) (.pointer x2) (.pointer x3) (.pointer x4) (.bool false) (.string rel)
      have hb8 := set9_below (.slice none 0 0) (.slice none 0 0) (.pointer x0) (.pointer x1) (.pointer x2) (.pointer x3) (.pointer x4) (.bool false) (.string rel) st1.below (Nat.le_of_lt (Nat.lt_trans (Nat.lt_succ_self _) hlt1))
      have hz8 := set9_size w1 W.heap.size (.slice none 0 0) (.slice none 0 0) (.pointer x0) (.pointer x1) (.pointer x2) (.pointer x3) (.pointer x4) (.bool false) (.string rel)
      have hfin : QG w 109 175 175 #[.slice FA fs.length fc, .bool b, .string nm, .string sc, .slice A n c, .slice B m d, .string r, .string rel] #[.slice none 0 0, .slice none 0 0, .pointer none, .pointer none, .pointer none, .pointer none, .pointer none, .bool false, .string ⟨#[]⟩] #[.slice none 0 0, .slice none 0 0, .pointer x0, .pointer x1, .pointer x2, .pointer x3, .pointer x4, .bool false, .string rel] W.heap.size (set9 w1 W.heap.size (.slice none 0 0) (.slice none 0 0) (.pointer x0) (.pointer x1) (.pointer x2) (.pointer x3) (.pointer x4) (.bool false) (.string rel)) :=
        ⟨⟨hb8, (hh8 _ (by omega)).trans st1.a, (hh8 _ (by omega)).trans st1.b⟩, hs8, hlt1⟩
      have hfp : PAt (FrG (w.heap.size + 1) W.heap.size (set9 w1 W.heap.size (.slice none 0 0) (.slice none 0 0) (.pointer x0) (.pointer x1) (.pointer x2) (.pointer x3) (.pointer x4) (.bool false) (.string rel))) (set9 w1 W.heap.size (.slice none 0 0) (.slice none 0 0) (.pointer x0) (.pointer x1) (.pointer x2) (.pointer x3) (.pointer x4) (.bool false) (.string rel)) .ref t.plain [.pointer x0, .pointer x1, .pointer x2, .pointer x3, .pointer x4, .bool false] := by
        have hlo : ∀ b, Fr (W.drew.alloc (.cells #[.slice none 0 0, .slice none 0 0, .pointer none, .pointer none, .pointer none, .pointer none, .pointer none, .bool false, .string ⟨#[]⟩] 175)).heap.size w1 b → W.heap.size + 1 ≤ b := fun b hb => by
          have := hb.1
          rw [World.size_alloc] at this
          exact this
        exact (hp.keeps fun b hb => hh8 b (by have := hlo b hb; omega)).mono fun b hb => ⟨by have := hlo b hb; omega, by have := hlo b hb; omega, by rw [hz8]; exact hb.2⟩
      have Hfin := hide (And.intro hfin hfp)
      clear hs8 hh8 hb8 hz8 hfin hfp hg st1 hp hbA hb1
      go_wp2_with fail
      go_meet
      exact ⟨W.heap.size, x0, x1, x2, x3, x4, rfl, Hfin.out.1, Hfin.out.2⟩
  case rest =>
    obtain ⟨g, x0, x1, x2, x3, x4, rfl, hq, hp⟩ := hcut
    clear Hst HE
    have q0 := hq.q.a.cell 0
    simp at q0
    have hgl0 := hq.q.a.lt
    have H2 := hide (And.intro hq hp)
    clear hq hp
    go_wp2_with fail
    go_loopw [15] (fun s W => MInv w #[.slice FA fs.length fc, .bool b, .string nm, .string sc, .slice A n c, .slice B m d, .string r, .string rel] #[.slice none 0 0, .slice none 0 0, .pointer none, .pointer none, .pointer none, .pointer none, .pointer none, .bool false, .string ⟨#[]⟩] (fun out => #[out, .slice none 0 0, .pointer x0, .pointer x1, .pointer x2, .pointer x3, .pointer x4, .bool false, .string rel]) g wc.heap.size wc (fs.map Ytekaainjpddklaa.S.plain) s W) (fun s _ => fs.length - (intOf s).toNat)
    case atStart => exact ⟨0, .slice none 0 0, [], rfl, Nat.zero_le _, H2.out.1, World.ownsRow_nil _ _ _ _, Cells.nil_, Keeps.refl _ _, Nat.le_refl _⟩
    case round =>
      obtain ⟨k, out, us, rfl, hk, hq, hown, hus, hkp, hB⟩ := hrel
      rw [List.length_map] at hk
      by_cases hlt : k < fs.length
      · have hki0 : (0 : Int) ≤ (k : Int) := Int.natCast_nonneg _
        have hki1 : (k : Int) < (fs.length : Int) := by omega
        have hfk : fs[k]? = some fs[k] := List.getElem?_eq_getElem hlt
        have hx := H7.out.2.2.2 k _ hfk
        have hfo := HF.out fs[k] (List.getElem_mem hlt)
        have hsn : (fs.map Ytekaainjpddklaa.S.plain).take (k + 1) = (fs.map Ytekaainjpddklaa.S.plain).take k ++ [fs[k].plain] := by rw [List.take_succ_eq_append_getElem (by simpa using hlt), List.getElem_map]
        generalize fs[k] = fx at *
        generalize hcs : (xs.drop (k * 8)).take 8 = fcs at hx
        obtain ⟨f0, f1, f2, f3, f4, f5, f6, f7, f8, f9, fa, fb, fd, fe, rfl⟩ := hx.field_form
        obtain ⟨rb, ro, rfl, hF, hc⟩ := rown_at H7.out.2.2.1 hlt hcs
        have hkc0 := hc 0 _ rfl
        rw [Nat.add_zero] at hkc0
        have hkc1 := hc 1 _ rfl
        have hkc2 := hc 2 _ rfl
        have hkc3 := hc 3 _ rfl
        have hkc4 := hc 4 _ rfl
        have hkc5 := hc 5 _ rfl
        have hkc6 := hc 6 _ rfl
        have hkc7 := hc 7 _ rfl
        have ec := (bcell hq.q.below).1
        rw [← ec _ _ hF] at hkc0 hkc1 hkc2 hkc3 hkc4 hkc5 hkc6 hkc7
        have hrb : rb < w.heap.size := hF
        have hgl0 := hq.q.a.lt
        have hgl := hq.gb.lt
        have Hq := hide (And.intro hq (And.intro hown (And.intro hus (And.intro hkp (And.intro hB (And.intro hx (And.intro hfo (And.intro hsn hcs))))))))
        clear hq hown hus hkp hB hx hfo hsn hcs hc ec hfk
        go_wp2_with fail
        have hbA : Below wr.heap.size wr (wr.alloc (.cells #[.string f0, .bool f1, .string f2, .string f3, .slice f4 f5 f6, .slice f7 f8 f9, .string fa, .slice fb fd fe] 111)) := (Below.refl _ _).alloc (Nat.le_refl _) _
        have hS0 : Bk (wr.alloc (.cells #[.string f0, .bool f1, .string f2, .string f3, .slice f4 f5 f6, .slice f7 f8 f9, .string fa, .slice fb fd fe] 111)).drew wr.heap.size 111 #[.string f0, .bool f1, .string f2, .string f3, .slice f4 f5 f6, .slice f7 f8 f9, .string fa, .slice fb fd fe] ∧ Bk (wr.alloc (.cells #[.string f0, .bool f1, .string f2, .string f3, .slice f4 f5 f6, .slice f7 f8 f9, .string fa, .slice fb fd fe] 111)).drew g 175 #[out, .slice none 0 0, .pointer x0, .pointer x1, .pointer x2, .pointer x3, .pointer x4, .bool false, .string rel] := ⟨Bk.new _ _ _, Hq.out.1.gb.alloc _⟩
        obtain ⟨S, hS⟩ : ∃ S, (fun W => Bk W wr.heap.size 111 #[.string f0, .bool f1, .string f2, .string f3, .slice f4 f5 f6, .slice f7 f8 f9, .string fa, .slice fb fd fe] ∧ Bk W g 175 #[out, .slice none 0 0, .pointer x0, .pointer x1, .pointer x2, .pointer x3, .pointer x4, .bool false, .string rel]) = S := ⟨_, rfl⟩
        have hS0 : S (wr.alloc (.cells #[.string f0, .bool f1, .string f2, .string f3, .slice f4 f5 f6, .slice f7 f8 f9, .string fa, .slice fb fd fe] 111)).drew := by rw [← hS]; exact hS0
        refine wp_region_head 6 S (by rfl) (by kernel_rfl) ?_
        refine HT.take 0 (v := ?_) rfl (by kernel_rfl) (fun _ _ _ h => h) (Or.inl ⟨by rfl, ?_⟩) (by assumption) ?_
        rotate_left
        · intro W hSw; rw [← hS] at hSw; have hSw := show Bk W wr.heap.size 111 #[.string f0, .bool f1, .string f2, .string f3, .slice f4 f5 f6, .slice f7 f8 f9, .string fa, .slice fb fd fe] ∧ Bk W g 175 #[out, .slice none 0 0, .pointer x0, .pointer x1, .pointer x2, .pointer x3, .pointer x4, .bool false, .string rel] from hSw; have y0 := hSw.2.cell 0; obtain ⟨hSw, -⟩ := hSw; have s0 := hSw.cell 0; have s1 := hSw.cell 1; have s2 := hSw.cell 2; have s3 := hSw.cell 3; have s4 := hSw.cell 4; have s5 := hSw.cell 5; have s6 := hSw.cell 6; have s7 := hSw.cell 7; clear hSw; simp at y0 s0 s1 s2 s3 s4 s5 s6 s7; go_simp; with_reducible rfl
        simp only [Act.put, List.setIfInBounds_toArray, List.set_cons_zero, List.set_cons_succ]
        refine HT.take 1 (v := ?_) rfl (by kernel_rfl) (fun _ _ _ h => h) (Or.inl ⟨by rfl, ?_⟩) (by assumption) ?_
        rotate_left
        · intro W hSw; rw [← hS] at hSw; have hSw := show Bk W wr.heap.size 111 #[.string f0, .bool f1, .string f2, .string f3, .slice f4 f5 f6, .slice f7 f8 f9, .string fa, .slice fb fd fe] ∧ Bk W g 175 #[out, .slice none 0 0, .pointer x0, .pointer x1, .pointer x2, .pointer x3, .pointer x4, .bool false, .string rel] from hSw; have y0 := hSw.2.cell 0; obtain ⟨hSw, -⟩ := hSw; have s0 := hSw.cell 0; have s1 := hSw.cell 1; have s2 := hSw.cell 2; have s3 := hSw.cell 3; have s4 := hSw.cell 4; have s5 := hSw.cell 5; have s6 := hSw.cell 6; have s7 := hSw.cell 7; clear hSw; simp at y0 s0 s1 s2 s3 s4 s5 s6 s7; go_simp; with_reducible rfl
        simp only [Act.put, List.setIfInBounds_toArray, List.set_cons_zero, List.set_cons_succ]
        refine HT.take 2 (v := ?_) rfl (by kernel_rfl) (fun _ _ _ h => h) (Or.inl ⟨by rfl, ?_⟩) (by assumption) ?_
        rotate_left
        · intro W hSw; rw [← hS] at hSw; have hSw := show Bk W wr.heap.size 111 #[.string f0, .bool f1, .string f2, .string f3, .slice f4 f5 f6, .slice f7 f8 f9, .string fa, .slice fb fd fe] ∧ Bk W g 175 #[out, .slice none 0 0, .pointer x0, .pointer x1, .pointer x2, .pointer x3, .pointer x4, .bool false, .string rel] from hSw; have y0 := hSw.2.cell 0; obtain ⟨hSw, -⟩ := hSw; have s0 := hSw.cell 0; have s1 := hSw.cell 1; have s2 := hSw.cell 2; have s3 := hSw.cell 3; have s4 := hSw.cell 4; have s5 := hSw.cell 5; have s6 := hSw.cell 6; have s7 := hSw.cell 7; clear hSw; simp at y0 s0 s1 s2 s3 s4 s5 s6 s7; go_simp; with_reducible rfl
        simp only [Act.put, List.setIfInBounds_toArray, List.set_cons_zero, List.set_cons_succ]
        refine HT.one 3 rfl (by kernel_rfl) (by rfl) (fun K hK => ?_)
        go_simp
        have hbw : Below w.heap.size w (wr.alloc (.cells #[.string f0, .bool f1, .string f2, .string f3, .slice f4 f5 f6, .slice f7 f8 f9, .string fa, .slice fb fd fe] 111)).drew := below_drew (Hq.out.1.q.below.trans (hbA.mono Hq.out.1.q.below.size))
        refine (Hq.out.2.2.2.2.2.2.1 _ _ (Hq.out.2.2.2.2.2.1.at_ hbw)).mono ?_
        rintro e w1 ⟨gs, rfl, hp, hb1⟩
        have hb1' := hb1
        have hp : PAt (Fr wr.heap.size w1) w1 .field _ gs := hp.mono fun b hb => ⟨by have := hb.1; rw [World.size_drew, World.size_alloc] at this; omega, hb.2⟩
        have hb1 : Below wr.heap.size wr w1 := hbA.trans ((below_drew' hb1).mono hbA.size)
        obtain ⟨g0, g1, g2, g3, g4, g5, u, rfl, hu⟩ := hp.field_form
        obtain rfl | ⟨ti, ui, rfl⟩ := hu
        · go_simp
          have hS1 : S w1 := by rw [← hS]; exact ⟨(Bk.new wr _ _).below (below_drew' hb1') (by simp), Hq.out.1.gb.below hb1 Hq.out.1.gb.lt⟩
          refine hK.out _ _ hS1 ?_
          clear hK
          refine HT.one 4 rfl (by kernel_rfl) (by rfl) (fun K hK => ?_)
          go_simp
          have hbL : Below wr.heap.size wr (w1.alloc (.cells #[.string g0, .pointer g1, .pointer g2, .pointer g3, .pointer g4, .pointer g5, .bool false, .nilIface] 210)) := hb1.alloc hb1.size _
          refine hK.out _ _ (by rw [← hS]; exact ⟨((Bk.new wr _ _).below (below_drew' hb1') (by simp)).alloc _, Hq.out.1.gb.below hbL Hq.out.1.gb.lt⟩) ?_
          clear hK
          refine HT.one 5 rfl (by kernel_rfl) (by rfl) (fun K hK => ?_)
          have hownL := (ownsRow_below Hq.out.2.1 hb1 (Nat.le_refl _)).alloc (.cells #[.string g0, .pointer g1, .pointer g2, .pointer g3, .pointer g4, .pointer g5, .bool false, .nilIface] 210)
          have hszL := hbL.size
          refine wp_append_row _ (.tmp 20) (.tmp 23) 172 rfl wc.heap.size 210 i9 _ 8 80 Try.underlying172 hi9 hz9 hs9 hb9 rfl (by omega) _ k us rfl hownL (fun _ => True) (some ⟨w1.heap.size, 0, none⟩) 1 1 [.string g0, .pointer g1, .pointer g2, .pointer g3, .pointer g4, .pointer g5, .bool false, .nilIface] rfl (Row.of_bk (Bk.new w1 210 [.string g0, .pointer g1, .pointer g2, .pointer g3, .pointer g4, .pointer g5, .bool false, .nilIface].toArray) rfl trivial) (by simp [Value.oneCell']) (by omega) (by omega) (by have := Hq.out.2.2.2.2.1; omega) ?_
          intro out' w2 hown2 hg2 hat2
          have hlo : ∀ k, out.ownBlock = some k → wc.heap.size ≤ k ∧ k < wr.heap.size := Hq.out.2.1.lt
          have hgw : g < wc.heap.size := H2.out.1.gb.lt
          have hq2 := (((Hq.out.1.call hbL).grown hg2 (fun k e => (hlo k e).1) hgw)).setC 0 out'
          simp at hq2
          have hcs := cells_step (Q := fun F w a cs => PAt F w .field a cs) (fun h k => h.keeps k) (fun h k => h.mono k) Hq.out.2.1 Hq.out.2.2.1 Hq.out.2.2.2.2.1 hp rfl hb1 hg2 hat2
          have hbk2 : Bk w2 wr.heap.size 111 #[.string f0, .bool f1, .string f2, .string f3, .slice f4 f5 f6, .slice f7 f8 f9, .string fa, .slice fb fd fe] := (((Bk.new wr _ _).below (below_drew' hb1') (by simp)).alloc _).grown hg2 (fun e => by have := (hlo _ e.symm).2; omega)
          have hgb2 : Bk w2 g 175 #[out, .slice none 0 0, .pointer x0, .pointer x1, .pointer x2, .pointer x3, .pointer x4, .bool false, .string rel] := (Hq.out.1.gb.below hbL Hq.out.1.gb.lt).grown hg2 (fun e => by have := (hlo _ e.symm).1; omega)
          have hkp2 : Keeps (FrG (w.heap.size + 1) g wc) wc (w2.setCell ⟨g, 0, none⟩ out') := by
            intro b hb
            have hbB := Hq.out.2.2.2.2.1
            have hb3 := hb.2.2
            rw [Below.heap_setCell _ _ _ _ hb.2.1, hg2.block b (by omega) (fun e => by have := (hlo _ e.symm).1; omega), hbL.block b (by omega)]
            exact Hq.out.2.2.2.1 b hb
          have hsz2 : wc.heap.size ≤ (w2.setCell ⟨g, 0, none⟩ out').heap.size := by
            have := hcs.2
            simpa using this
          have hcs2 : Cells 8 (PAt (FrX wc.heap.size (w2.setCell ⟨g, 0, none⟩ out') out') (w2.setCell ⟨g, 0, none⟩ out') .field) ((fs.map Ytekaainjpddklaa.S.plain).take (k + 1)) (us ++ [.string g0, .pointer g1, .pointer g2, .pointer g3, .pointer g4, .pointer g5, .bool false, .nilIface]) := by
            rw [Hq.out.2.2.2.2.2.2.2.1]
            refine hcs.1.mono fun a cs h => (h.keeps (Keeps.setCell _ _ _ fun x hx => ?_)).mono fun b hb => ⟨hb.1, by simpa using hb.2.1, hb.2.2⟩
            have := hx.1
            simp only
            omega
          have hown3 := ownsRow_setCell_below hown2 (a := ⟨g, 0, none⟩) hgw out'
          have hgl2 := hgb2.lt
          have fz2 := hgb2.free
          have yy := hgb2.cell 0
          simp at yy
          have Hfin := hide (And.intro hq2 (And.intro hown3 (And.intro hcs2 (And.intro hkp2 hsz2))))
          obtain ⟨oA, oc, rfl, _, _⟩ := own_form hown2
          go_simp
          refine hK.out _ _ (by rw [← hS]; exact ⟨hbk2, hgb2⟩) ?_
          clear hK
          refine HT.done (by kernel_rfl) ?_
          simp only [List.drop_succ_cons, List.drop_zero]
          clear hS0 hS hS1 hbL hownL hszL hown2 hg2 hat2 hlo hq2 hcs hbk2 hgb2 hkp2 hsz2 hcs2 hown3 hp hb1 hb1' hbw hbA
          go_wp2_with fail
          exact ⟨⟨k + 1, _, _, by go_num, by rw [List.length_map]; omega, Hfin.out.1, Hfin.out.2.1, Hfin.out.2.2.1, Hfin.out.2.2.2.1, Hfin.out.2.2.2.2⟩, by simp [intOf]; omega⟩
        · go_simp
          have hS1 : S w1 := by rw [← hS]; exact ⟨(Bk.new wr _ _).below (below_drew' hb1') (by simp), Hq.out.1.gb.below hb1 Hq.out.1.gb.lt⟩
          refine hK.out _ _ hS1 ?_
          clear hK
          refine HT.one 4 rfl (by kernel_rfl) (by rfl) (fun K hK => ?_)
          go_simp
          have hbL : Below wr.heap.size wr (w1.alloc (.cells #[.string g0, .pointer g1, .pointer g2, .pointer g3, .pointer g4, .pointer g5, .bool false, .iface ti ui] 210)) := hb1.alloc hb1.size _
          refine hK.out _ _ (by rw [← hS]; exact ⟨((Bk.new wr _ _).below (below_drew' hb1') (by simp)).alloc _, Hq.out.1.gb.below hbL Hq.out.1.gb.lt⟩) ?_
          clear hK
          refine HT.one 5 rfl (by kernel_rfl) (by rfl) (fun K hK => ?_)
          have hownL := (ownsRow_below Hq.out.2.1 hb1 (Nat.le_refl _)).alloc (.cells #[.string g0, .pointer g1, .pointer g2, .pointer g3, .pointer g4, .pointer g5, .bool false, .iface ti ui] 210)
          have hszL := hbL.size
          refine wp_append_row _ (.tmp 20) (.tmp 23) 172 rfl wc.heap.size 210 i9 _ 8 80 Try.underlying172 hi9 hz9 hs9 hb9 rfl (by omega) _ k us rfl hownL (fun _ => True) (some ⟨w1.heap.size, 0, none⟩) 1 1 [.string g0, .pointer g1, .pointer g2, .pointer g3, .pointer g4, .pointer g5, .bool false, .iface ti ui] rfl (Row.of_bk (Bk.new w1 210 [.string g0, .pointer g1, .pointer g2, .pointer g3, .pointer g4, .pointer g5, .bool false, .iface ti ui].toArray) rfl trivial) (by simp [Value.oneCell']) (by omega) (by omega) (by have := Hq.out.2.2.2.2.1; omega) ?_
          intro out' w2 hown2 hg2 hat2
          have hlo : ∀ k, out.ownBlock = some k → wc.heap.size ≤ k ∧ k < wr.heap.size := Hq.out.2.1.lt
          have hgw : g < wc.heap.size := H2.out.1.gb.lt
          have hq2 := (((Hq.out.1.call hbL).grown hg2 (fun k e => (hlo k e).1) hgw)).setC 0 out'
          simp at hq2
          have hcs := cells_step (Q := fun F w a cs => PAt F w .field a cs) (fun h k => h.keeps k) (fun h k => h.mono k) Hq.out.2.1 Hq.out.2.2.1 Hq.out.2.2.2.2.1 hp rfl hb1 hg2 hat2
          have hbk2 : Bk w2 wr.heap.size 111 #[.string f0, .bool f1, .string f2, .string f3, .slice f4 f5 f6, .slice f7 f8 f9, .string fa, .slice fb fd fe] := (((Bk.new wr _ _).below (below_drew' hb1') (by simp)).alloc _).grown hg2 (fun e => by have := (hlo _ e.symm).2; omega)
          have hgb2 : Bk w2 g 175 #[out, .slice none 0 0, .pointer x0, .pointer x1, .pointer x2, .pointer x3, .pointer x4, .bool false, .string rel] := (Hq.out.1.gb.below hbL Hq.out.1.gb.lt).grown hg2 (fun e => by have := (hlo _ e.symm).1; omega)
          have hkp2 : Keeps (FrG (w.heap.size + 1) g wc) wc (w2.setCell ⟨g, 0, none⟩ out') := by
            intro b hb
            have hbB := Hq.out.2.2.2.2.1
            have hb3 := hb.2.2
            rw [Below.heap_setCell _ _ _ _ hb.2.1, hg2.block b (by omega) (fun e => by have := (hlo _ e.symm).1; omega), hbL.block b (by omega)]
            exact Hq.out.2.2.2.1 b hb
          have hsz2 : wc.heap.size ≤ (w2.setCell ⟨g, 0, none⟩ out').heap.size := by
            have := hcs.2
            simpa using this
          have hcs2 : Cells 8 (PAt (FrX wc.heap.size (w2.setCell ⟨g, 0, none⟩ out') out') (w2.setCell ⟨g, 0, none⟩ out') .field) ((fs.map Ytekaainjpddklaa.S.plain).take (k + 1)) (us ++ [.string g0, .pointer g1, .pointer g2, .pointer g3, .pointer g4, .pointer g5, .bool false, .iface ti ui]) := by
            rw [Hq.out.2.2.2.2.2.2.2.1]
            refine hcs.1.mono fun a cs h => (h.keeps (Keeps.setCell _ _ _ fun x hx => ?_)).mono fun b hb => ⟨hb.1, by simpa using hb.2.1, hb.2.2⟩
            have := hx.1
            simp only
            omega
          have hown3 := ownsRow_setCell_below hown2 (a := ⟨g, 0, none⟩) hgw out'
          have hgl2 := hgb2.lt
          have fz2 := hgb2.free
          have yy := hgb2.cell 0
          simp at yy
          have Hfin := hide (And.intro hq2 (And.intro hown3 (And.intro hcs2 (And.intro hkp2 hsz2))))
          obtain ⟨oA, oc, rfl, _, _⟩ := own_form hown2
          go_simp
          refine hK.out _ _ (by rw [← hS]; exact ⟨hbk2, hgb2⟩) ?_
          clear hK
          refine HT.done (by kernel_rfl) ?_
          simp only [List.drop_succ_cons, List.drop_zero]
          clear hS0 hS hS1 hbL hownL hszL hown2 hg2 hat2 hlo hq2 hcs hbk2 hgb2 hkp2 hsz2 hcs2 hown3 hp hb1 hb1' hbw hbA
          go_wp2_with fail
          exact ⟨⟨k + 1, _, _, by go_num, by rw [List.length_map]; omega, Hfin.out.1, Hfin.out.2.1, Hfin.out.2.2.1, Hfin.out.2.2.2.1, Hfin.out.2.2.2.2⟩, by simp [intOf]; omega⟩
      · have hke : k = fs.length := by omega
        subst hke
        have hki1 : ¬ ((fs.length : Nat) : Int) < (fs.length : Int) := by omega
        rw [List.take_of_length_le (by rw [List.length_map]; omega)] at hus
        obtain ⟨oA, oc, rfl, hc1, hc2⟩ := own_form hown
        have hlt := hown.lt
        have hgw : g < wc.heap.size := H2.out.1.gb.lt
        have hqlt := hq.lt
        have hv : PAt (FrN w.heap.size (w.heap.size + 1) wr) wr .map (.map (fs.map Ytekaainjpddklaa.S.plain) t.plain rel) [.slice oA fs.length oc, .slice none 0 0, .pointer x0, .pointer x1, .pointer x2, .pointer x3, .pointer x4, .bool false, .string rel] := by
          have h0 := PAt.map (F := FrN w.heap.size (w.heap.size + 1) wr) (w := wr) (fs := fs.map Ytekaainjpddklaa.S.plain) (e := t.plain) (rel := rel) (A := oA) (c := oc) (xs := us) (by rw [List.length_map]; exact H7.out.2.1) (by rw [List.length_map]; exact hc1) hc2
            (by rw [List.length_map]; exact Row.of_own hown fun b hb => ⟨by have := (hlt b hb).1; omega, by have := (hlt b hb).1; omega, (hlt b hb).2⟩)
            (fun i x hi => (hus.2 i x hi).mono fun b hb => ⟨by have := hb.1; omega, by have := hb.1; omega, hb.2.1⟩)
            ((H2.out.2.keeps hkp).mono fun b hb => ⟨by have := hb.1; omega, by have := hb.1; omega, by have := hb.2.2; omega⟩) H7.out.1
          rw [List.length_map] at h0
          exact h0
        have hgl := hq.gb.lt
        have hgl1 := hq.q.b.lt
        have fzb := hq.q.b.free
        have k0 := hq.gb.cell 0
        have r0 := hq.q.b.cell 0
        have k1 := hq.gb.cell 1
        have r1 := hq.q.b.cell 1
        have k2 := hq.gb.cell 2
        have r2 := hq.q.b.cell 2
        have k3 := hq.gb.cell 3
        have r3 := hq.q.b.cell 3
        have k4 := hq.gb.cell 4
        have r4 := hq.q.b.cell 4
        have k5 := hq.gb.cell 5
        have r5 := hq.q.b.cell 5
        have k6 := hq.gb.cell 6
        have r6 := hq.q.b.cell 6
        have k7 := hq.gb.cell 7
        have r7 := hq.q.b.cell 7
        have k8 := hq.gb.cell 8
        have r8 := hq.q.b.cell 8
        simp at k0 k1 k2 k3 k4 k5 k6 k7 k8 r0 r1 r2 r3 r4 r5 r6 r7 r8
        have H3 := hide (And.intro hq hv)
        clear hq hown hus hkp hB hlt hc1 hc2 hv
        go_wp2
        exact ret_Map rfl _ (by omega) H3.out.1.q.b H3.out.1.q.below H3.out.2 rfl

end Go.Proofs.Ytekaainjpddklaa

/-!
  impl.toAtom, of what toListType and toMap make.
-/

namespace Go.Proofs.Ytekaainjpddklaa
open Go.RowKit
attribute [local go_sem] run_store_float

section
variable {F G : Nat → Prop} {w w' : World}
theorem SAt.list_form {s : Ytekaainjpddklaa.S} {cs : List Value} (h : SAt F w .list s cs) : ∃ (b : Bool) (n sc : ByteArray) (A : Option Addr) (k c : Nat) (B : Option Addr) (m d : Nat) (r q : ByteArray) (D : Option Addr) (e f : Nat), cs = [.bool b, .string n, .string sc, .slice A k c, .slice B m d, .string r, .string q, .slice D e f] := by
  cases h with
  | list h =>
    obtain ⟨_, _, _, _, _, _, _, _, _, _, e⟩ := h.ref_form
    simp only [List.cons.injEq, and_true] at e
    obtain ⟨rfl, rfl, rfl, rfl, rfl, rfl⟩ := e
    exact ⟨_, _, _, _, _, _, _, _, _, _, _, _, _, _, rfl⟩
theorem SAt.map_form {s : Ytekaainjpddklaa.S} {cs : List Value} (h : SAt F w .map s cs) : ∃ (D : Option Addr) (e f : Nat) (b : Bool) (n sc : ByteArray) (A : Option Addr) (k c : Nat) (B : Option Addr) (m d : Nat) (r q : ByteArray), cs = [.slice D e f, .bool b, .string n, .string sc, .slice A k c, .slice B m d, .string r, .string q] := by
  cases h with
  | map _ _ _ _ _ h =>
    obtain ⟨_, _, _, _, _, _, _, _, _, _, e⟩ := h.ref_form
    simp only [List.cons.injEq, and_true] at e
    obtain ⟨rfl, rfl, rfl, rfl, rfl, rfl⟩ := e
    exact ⟨_, _, _, _, _, _, _, _, _, _, _, _, _, _, rfl⟩
theorem PAt.list_form {s : P} {cs : List Value} (h : PAt F w .list s cs) : ∃ (n x y z r : Option Addr) (q : ByteArray) (D : Option Addr) (e f : Nat), cs = [.pointer n, .pointer x, .pointer y, .pointer z, .pointer r, .bool false, .string q, .slice D e f] := by
  cases h with
  | list h =>
    obtain ⟨_, _, _, _, _, e⟩ := h.ref_form
    simp only [List.cons.injEq, and_true] at e
    obtain ⟨rfl, rfl, rfl, rfl, rfl, rfl⟩ := e
    exact ⟨_, _, _, _, _, _, _, _, _, rfl⟩
theorem PAt.map_form {s : P} {cs : List Value} (h : PAt F w .map s cs) : ∃ (D : Option Addr) (e f : Nat) (n x y z r : Option Addr) (q : ByteArray), cs = [.slice D e f, .slice none 0 0, .pointer n, .pointer x, .pointer y, .pointer z, .pointer r, .bool false, .string q] := by
  cases h with
  | map _ _ _ _ _ h =>
    obtain ⟨_, _, _, _, _, e⟩ := h.ref_form
    simp only [List.cons.injEq, and_true] at e
    obtain ⟨rfl, rfl, rfl, rfl, rfl, rfl⟩ := e
    exact ⟨_, _, _, _, _, _, _, _, _, rfl⟩

/-- a pointer to a part of a type, or nil -/
def PtrP (F : Nat → Prop) (w : World) (t : TypeId) (k : Ytekaainjpddklaa.K) (o : Option P) (v : Value) : Prop := ∃ oc, BoxP F w t oc v ∧ (o = none ↔ oc = none) ∧ ∀ x cs, o = some x → oc = some cs → PAt F w k x cs
theorem PtrP.none_ {t : TypeId} {k : Ytekaainjpddklaa.K} : PtrP F w t k none (.pointer none) := ⟨none, .inl ⟨rfl, rfl⟩, by simp, by simp⟩
theorem PtrP.some_ {t : TypeId} {k : Ytekaainjpddklaa.K} {x : P} {cs : List Value} {g : Nat} (hF : F g) (hB : Bk w g t cs.toArray) (h : PAt F w k x cs) : PtrP F w t k (some x) (.pointer (some ⟨g, 0, none⟩)) :=
  ⟨some cs, .inr ⟨cs, g, rfl, rfl, hF, hB⟩, by simp, fun y ds e1 e2 => by cases e1; cases e2; exact h⟩
theorem PtrP.keeps {t : TypeId} {k : Ytekaainjpddklaa.K} {o : Option P} {v : Value} (h : PtrP F w t k o v) (kp : Keeps F w w') : PtrP F w' t k o v := by
  obtain ⟨oc, h1, h2, h3⟩ := h
  exact ⟨oc, h1.keeps kp, h2, fun x cs e1 e2 => (h3 x cs e1 e2).keeps kp⟩
theorem PtrP.mono {t : TypeId} {k : Ytekaainjpddklaa.K} {o : Option P} {v : Value} (h : PtrP F w t k o v) (kp : ∀ b, F b → G b) : PtrP G w t k o v := by
  obtain ⟨oc, h1, h2, h3⟩ := h
  exact ⟨oc, h1.mono kp, h2, fun x cs e1 e2 => (h3 x cs e1 e2).mono kp⟩
theorem PtrP.form {t : TypeId} {k : Ytekaainjpddklaa.K} {o : Option P} {v : Value} (h : PtrP F w t k o v) : ∃ x : Option Addr, v = .pointer x := by
  obtain ⟨oc, h1, -⟩ := h
  exact h1.form
theorem PAt.atom_of {sc : Option ByteArray} {l m : Option P} {v0 v1 v2 : Value} (h0 : sc ≠ some ⟨#[]⟩) (h1 : StrP F w 83 sc v0) (h2 : PtrP F w 167 .list l v1) (h3 : PtrP F w 175 .map m v2) : PAt F w .atom (.atom sc l m) [v0, v1, v2] := by
  obtain ⟨o1, a1, b1, c1⟩ := h2
  obtain ⟨o2, a2, b2, c2⟩ := h3
  exact .atom h0 h1 a1 a2 b1 b2 c1 c2
end

theorem FrA.grow {B : Nat} {W W' : World} (h : W.heap.size ≤ W'.heap.size) : ∀ b, FrA B W b → FrA B W' b := fun b hb => ⟨hb.1, Nat.lt_of_lt_of_le hb.2 h⟩

set_option maxRecDepth 100000 in
set_option maxHeartbeats 4000000 in
theorem toAtom_of {sc : ByteArray} {l m : Option Ytekaainjpddklaa.S} (hl : ∀ x, l = some x → ToListOK x) (hm : ∀ x, m = some x → ToMapOK x) : ToAtomOK (.atom sc l m) := by
  intro w cs h
  cases h with
  | @atom _ _ _ LA MA ln lc mn mc xs ys h1 h2 h3 h4 h5 h6 h7 h8 h9 h10 h11 h12 h13 =>
  have h1' : sc.size ≤ 140737488351232 := h1
  have h2' : ln * 144 ≤ 140737488351232 := h2
  have h5' : mn * 144 ≤ 140737488351232 := h5
  have HL := hide (And.intro h10 (And.intro h12 (And.intro h8 hl)))
  have HM := hide (And.intro h11 (And.intro h13 (And.intro h9 hm)))
  have H1 := hide h1
  rw [Ytekaainjpddklaa.S.plain_atom]
  clear h1 h2 h5 h8 h9 h10 h11 h12 h13 hl hm
  go_enter Try.func100, Try.ntmps100
  go_upto_region 2 with fail
  have st := Q3.made w 38 92 92 #[.string sc, .slice LA ln lc, .slice MA mn mc] #[.pointer none, .pointer none, .pointer none] #[.pointer none, .pointer none, .pointer none]
  generalize World.alloc (World.alloc (World.alloc w _) _) _ = W at st ⊢
  have hgl := st.c.lt
  have hgl0 := st.a.lt
  have hgl1 := st.b.lt
  have fz := st.c.free
  have q0 := st.a.cell 0
  have q1 := st.a.cell 1
  have q2 := st.a.cell 2
  have k0 := st.c.cell 0
  have k1 := st.c.cell 1
  have k2 := st.c.cell 2
  simp at q0 q1 q2 k0 k1 k2
  go_upto_if 10 with fail
  go_cut [3] (fun s wx => ∃ v0, s = .pointer (some ⟨w.heap.size + 1 + 1, 0, none⟩) ∧ Q3 w 38 92 92 #[.string sc, .slice LA ln lc, .slice MA mn mc] #[.pointer none, .pointer none, .pointer none] #[v0, .pointer none, .pointer none] wx ∧ StrP (FrA (w.heap.size + 1 + 1) wx) wx 83 (nz sc) v0)
  case first =>
    by_cases hr : sc = ⟨#[]⟩
    · have hrl : sc.toList.isEmpty = true := by rw [hr, ByteArray.toList_eq]; rfl
      have H2 := hide (And.intro st hr)
      clear st hr
      rw [hrl, Bool.not_true]
      go_wp2_with fail
      go_meet
      exact ⟨.pointer none, rfl, H2.out.1, .inl ⟨if_pos H2.out.2, rfl⟩⟩
    · have hrl := toList_ne hr
      have st2 := (st.setC 0 (.pointer (some ⟨W.heap.size, 0, none⟩))).alloc (.cells #[.string sc] 83)
      simp at st2
      have hnew : Bk ((W.setCell ⟨w.heap.size + 1 + 1, 0, none⟩ (.pointer (some ⟨W.heap.size, 0, none⟩))).alloc (.cells #[.string sc] 83)) W.heap.size 83 #[.string sc] := by
        have := Bk.new (W.setCell ⟨w.heap.size + 1 + 1, 0, none⟩ (.pointer (some ⟨W.heap.size, 0, none⟩))) 83 #[.string sc]
        simpa using this
      have H2 := hide (And.intro st2 hnew)
      have Hr := hide hr
      clear st st2 hnew hr
      rw [hrl, Bool.not_false]
      go_wp2_with fail
      go_meet
      exact ⟨_, rfl, H2.out.1, .inr ⟨sc, W.heap.size, nz_ne Hr.out, rfl, ⟨hgl, by simp⟩, H2.out.2, H1.out⟩⟩
  case rest =>
    obtain ⟨v0, rfl, st, hv0⟩ := hcut
    obtain ⟨y0, rfl⟩ := hv0.form
    clear hgl hgl0 hgl1 fz q0 q1 q2 k0 k1 k2
    have hgl := st.c.lt
    have hgl0 := st.a.lt
    have hgl1 := st.b.lt
    have fz := st.c.free
    have q0 := st.a.cell 0
    have q1 := st.a.cell 1
    have q2 := st.a.cell 2
    have k0 := st.c.cell 0
    have k1 := st.c.cell 1
    have k2 := st.c.cell 2
    simp at q0 q1 q2 k0 k1 k2
    go_upto_if 17 with fail
    go_cut [3] (fun s wx => ∃ v1, s = .pointer (some ⟨w.heap.size + 1 + 1, 0, none⟩) ∧ Q3 w 38 92 92 #[.string sc, .slice LA ln lc, .slice MA mn mc] #[.pointer none, .pointer none, .pointer none] #[.pointer y0, v1, .pointer none] wx ∧ (StrP (FrA (w.heap.size + 1 + 1) wx) wx 83 (nz sc) (.pointer y0)) ∧ PtrP (FrA (w.heap.size + 1 + 1) wx) wx 167 .list (l.map Ytekaainjpddklaa.S.plain) v1)
    case first =>
      by_cases hz : ln = 0
      · have hrow := HL.out.2.2.1.1 hz
        subst hz hrow
        have H2 := hide (And.intro st hv0)
        clear st hv0
        go_wp2_with fail
        go_meet
        exact ⟨.pointer none, rfl, H2.out.1, H2.out.2, PtrP.none_⟩
      · obtain ⟨x, rfl⟩ : ∃ x, l = some x := by
          cases l with
          | none => exact absurd (HL.out.2.2.1.2 rfl) hz
          | some x => exact ⟨x, rfl⟩
        have hx := HL.out.2.1 x rfl
        have hok := HL.out.2.2.2 x rfl
        obtain ⟨f0, f1, f2, f3, f4, f5, f6, f7, f8, f9, fa, fb, fd, fe, ex⟩ := hx.list_form
        obtain ⟨rb, ro, rfl, hF, hc⟩ := rown_at (k := 0) HL.out.1 (by omega) ((congrArg (List.take 8) (show xs.drop (0 * 8) = xs by simp)).trans ex)
        rw [ex] at hx
        rw [Nat.zero_mul, Nat.add_zero] at hc
        have hkc0 := hc 0 _ rfl
        rw [Nat.add_zero] at hkc0
        have hkc1 := hc 1 _ rfl
        have hkc2 := hc 2 _ rfl
        have hkc3 := hc 3 _ rfl
        have hkc4 := hc 4 _ rfl
        have hkc5 := hc 5 _ rfl
        have hkc6 := hc 6 _ rfl
        have hkc7 := hc 7 _ rfl
        have hrb : rb < w.heap.size := hF
        have ec := (bcell st.below).1
        rw [← ec _ _ hrb] at hkc0 hkc1 hkc2 hkc3 hkc4 hkc5 hkc6 hkc7
        have hdz : (0 : Int) < (ln : Int) := by omega
        have HP := hide (hok wc _ (hx.at_ st.below))
        have H2 := hide (And.intro st hv0)
        clear st hv0 hx hok hc ec hF ex
        go_wp2_with fail
        refine HP.out.mono ?_
        rintro e w1 ⟨gs, rfl, hg, hb1⟩
        obtain ⟨g0, g1, g2, g3, g4, g5, g6, g7, g8, rfl⟩ := hg.list_form
        have st1 := H2.out.1.call hb1
        have hsz := hb1.size
        have st3 := (st1.setC 1 (.pointer (some ⟨w1.heap.size, 0, none⟩))).alloc (.cells #[.pointer g0, .pointer g1, .pointer g2, .pointer g3, .pointer g4, .bool false, .string g5, .slice g6 g7 g8] 167)
        simp at st3
        have hnew : Bk ((w1.setCell ⟨w.heap.size + 1 + 1, 1, none⟩ (.pointer (some ⟨w1.heap.size, 0, none⟩))).alloc (.cells #[.pointer g0, .pointer g1, .pointer g2, .pointer g3, .pointer g4, .bool false, .string g5, .slice g6 g7 g8] 167)) w1.heap.size 167 #[.pointer g0, .pointer g1, .pointer g2, .pointer g3, .pointer g4, .bool false, .string g5, .slice g6 g7 g8] := by
          have := Bk.new (w1.setCell ⟨w.heap.size + 1 + 1, 1, none⟩ (.pointer (some ⟨w1.heap.size, 0, none⟩))) 167 #[.pointer g0, .pointer g1, .pointer g2, .pointer g3, .pointer g4, .bool false, .string g5, .slice g6 g7 g8]
          simpa using this
        have hsz3 : wc.heap.size ≤ ((w1.setCell ⟨w.heap.size + 1 + 1, 1, none⟩ (.pointer (some ⟨w1.heap.size, 0, none⟩))).alloc (.cells #[.pointer g0, .pointer g1, .pointer g2, .pointer g3, .pointer g4, .bool false, .string g5, .slice g6 g7 g8] 167)).heap.size := by simp <;> omega
        have hsz4 : ((w1.setCell ⟨w.heap.size + 1 + 1, 1, none⟩ (.pointer (some ⟨w1.heap.size, 0, none⟩))).alloc (.cells #[.pointer g0, .pointer g1, .pointer g2, .pointer g3, .pointer g4, .bool false, .string g5, .slice g6 g7 g8] 167)).heap.size = w1.heap.size + 1 := by simp
        have hkk : Keeps (FrA (w.heap.size + 1 + 1) wc) wc ((w1.setCell ⟨w.heap.size + 1 + 1, 1, none⟩ (.pointer (some ⟨w1.heap.size, 0, none⟩))).alloc (.cells #[.pointer g0, .pointer g1, .pointer g2, .pointer g3, .pointer g4, .bool false, .string g5, .slice g6 g7 g8] 167)) := by
          intro b hb
          have h1 := hb.1
          have h2 := hb.2
          rw [Below.heap_alloc _ _ _ (by simp <;> omega), Below.heap_setCell _ _ _ _ (by simp only; omega), hb1.block b h2]
        have hkg : Keeps (Fr wc.heap.size w1) w1 ((w1.setCell ⟨w.heap.size + 1 + 1, 1, none⟩ (.pointer (some ⟨w1.heap.size, 0, none⟩))).alloc (.cells #[.pointer g0, .pointer g1, .pointer g2, .pointer g3, .pointer g4, .bool false, .string g5, .slice g6 g7 g8] 167)) := by
          intro b hb
          have h1 := hb.1
          have h2 := hb.2
          rw [Below.heap_alloc _ _ _ (by simpa using h2), Below.heap_setCell _ _ _ _ (by simp only; omega)]
        have hp := H2.out.2
        have hg3 : PAt (FrA (w.heap.size + 1 + 1) ((w1.setCell ⟨w.heap.size + 1 + 1, 1, none⟩ (.pointer (some ⟨w1.heap.size, 0, none⟩))).alloc (.cells #[.pointer g0, .pointer g1, .pointer g2, .pointer g3, .pointer g4, .bool false, .string g5, .slice g6 g7 g8] 167))) ((w1.setCell ⟨w.heap.size + 1 + 1, 1, none⟩ (.pointer (some ⟨w1.heap.size, 0, none⟩))).alloc (.cells #[.pointer g0, .pointer g1, .pointer g2, .pointer g3, .pointer g4, .bool false, .string g5, .slice g6 g7 g8] 167)) .list _ _ := (hg.keeps hkg).mono fun b hb => ⟨by have := hb.1; omega, by have := hb.2; omega⟩
        have hpp : (StrP (FrA (w.heap.size + 1 + 1) ((w1.setCell ⟨w.heap.size + 1 + 1, 1, none⟩ (.pointer (some ⟨w1.heap.size, 0, none⟩))).alloc (.cells #[.pointer g0, .pointer g1, .pointer g2, .pointer g3, .pointer g4, .bool false, .string g5, .slice g6 g7 g8] 167))) ((w1.setCell ⟨w.heap.size + 1 + 1, 1, none⟩ (.pointer (some ⟨w1.heap.size, 0, none⟩))).alloc (.cells #[.pointer g0, .pointer g1, .pointer g2, .pointer g3, .pointer g4, .bool false, .string g5, .slice g6 g7 g8] 167)) 83 (nz sc) (.pointer y0)) := (hp.keeps hkk).mono (FrA.grow hsz3)
        have hgl2 := st1.c.lt
        have fz2 := st1.c.free
        have kk := st1.c.cell 1
        simp at kk
        have H3 := hide (And.intro st3 (And.intro hnew (And.intro hpp (And.intro hg3 hsz4))))
        clear st1 st3 hnew hkk hkg hp hpp hg3 hg hb1 hsz3 hsz4
        go_wp2_with fail
        go_meet
        exact ⟨_, rfl, H3.out.1, H3.out.2.2.1, PtrP.some_ ⟨by omega, by rw [H3.out.2.2.2.2]; omega⟩ H3.out.2.1 H3.out.2.2.2.1⟩
    case rest =>
      obtain ⟨v1, rfl, st, hv0, hv1⟩ := hcut
      obtain ⟨y1, rfl⟩ := hv1.form
      clear hgl hgl0 hgl1 fz q0 q1 q2 k0 k1 k2
      have hgl := st.c.lt
      have hgl0 := st.a.lt
      have hgl1 := st.b.lt
      have fz := st.c.free
      have q0 := st.a.cell 0
      have q1 := st.a.cell 1
      have q2 := st.a.cell 2
      have k0 := st.c.cell 0
      have k1 := st.c.cell 1
      have k2 := st.c.cell 2
      simp at q0 q1 q2 k0 k1 k2
      go_upto_if 27 with fail
      go_cut [3] (fun s wx => ∃ v1, s = .pointer (some ⟨w.heap.size + 1 + 1, 0, none⟩) ∧ Q3 w 38 92 92 #[.string sc, .slice LA ln lc, .slice MA mn mc] #[.pointer none, .pointer none, .pointer none] #[.pointer y0, .pointer y1, v1] wx ∧ (StrP (FrA (w.heap.size + 1 + 1) wx) wx 83 (nz sc) (.pointer y0) ∧ PtrP (FrA (w.heap.size + 1 + 1) wx) wx 167 .list (l.map Ytekaainjpddklaa.S.plain) (.pointer y1)) ∧ PtrP (FrA (w.heap.size + 1 + 1) wx) wx 175 .map (m.map Ytekaainjpddklaa.S.plain) v1)
      case first =>
        by_cases hz : mn = 0
        · have hrow := HM.out.2.2.1.1 hz
          subst hz hrow
          have H2 := hide (And.intro st (And.intro hv0 hv1))
          clear st hv0 hv1
          go_wp2_with fail
          go_meet
          exact ⟨.pointer none, rfl, H2.out.1, H2.out.2, PtrP.none_⟩
        · obtain ⟨x, rfl⟩ : ∃ x, m = some x := by
            cases m with
            | none => exact absurd (HM.out.2.2.1.2 rfl) hz
            | some x => exact ⟨x, rfl⟩
          have hx := HM.out.2.1 x rfl
          have hok := HM.out.2.2.2 x rfl
          obtain ⟨f0, f1, f2, f3, f4, f5, f6, f7, f8, f9, fa, fb, fd, fe, ex⟩ := hx.map_form
          obtain ⟨rb, ro, rfl, hF, hc⟩ := rown_at (k := 0) HM.out.1 (by omega) ((congrArg (List.take 8) (show ys.drop (0 * 8) = ys by simp)).trans ex)
          rw [ex] at hx
          rw [Nat.zero_mul, Nat.add_zero] at hc
          have hkc0 := hc 0 _ rfl
          rw [Nat.add_zero] at hkc0
          have hkc1 := hc 1 _ rfl
          have hkc2 := hc 2 _ rfl
          have hkc3 := hc 3 _ rfl
          have hkc4 := hc 4 _ rfl
          have hkc5 := hc 5 _ rfl
          have hkc6 := hc 6 _ rfl
          have hkc7 := hc 7 _ rfl
          have hrb : rb < w.heap.size := hF
          have ec := (bcell st.below).1
          rw [← ec _ _ hrb] at hkc0 hkc1 hkc2 hkc3 hkc4 hkc5 hkc6 hkc7
          have hdz : (0 : Int) < (mn : Int) := by omega
          have HP := hide (hok wc _ (hx.at_ st.below))
          have H2 := hide (And.intro st (And.intro hv0 hv1))
          clear st hv0 hv1 hx hok hc ec hF ex
          go_wp2_with fail
          refine HP.out.mono ?_
          rintro e w1 ⟨gs, rfl, hg, hb1⟩
          obtain ⟨g0, g1, g2, g3, g4, g5, g6, g7, g8, rfl⟩ := hg.map_form
          have st1 := H2.out.1.call hb1
          have hsz := hb1.size
          have st3 := (st1.setC 2 (.pointer (some ⟨w1.heap.size, 0, none⟩))).alloc (.cells #[.slice g0 g1 g2, .slice none 0 0, .pointer g3, .pointer g4, .pointer g5, .pointer g6, .pointer g7, .bool false, .string g8] 175)
          simp at st3
          have hnew : Bk ((w1.setCell ⟨w.heap.size + 1 + 1, 2, none⟩ (.pointer (some ⟨w1.heap.size, 0, none⟩))).alloc (.cells #[.slice g0 g1 g2, .slice none 0 0, .pointer g3, .pointer g4, .pointer g5, .pointer g6, .pointer g7, .bool false, .string g8] 175)) w1.heap.size 175 #[.slice g0 g1 g2, .slice none 0 0, .pointer g3, .pointer g4, .pointer g5, .pointer g6, .pointer g7, .bool false, .string g8] := by
            have := Bk.new (w1.setCell ⟨w.heap.size + 1 + 1, 2, none⟩ (.pointer (some ⟨w1.heap.size, 0, none⟩))) 175 #[.slice g0 g1 g2, .slice none 0 0, .pointer g3, .pointer g4, .pointer g5, .pointer g6, .pointer g7, .bool false, .string g8]
            simpa using this
          have hsz3 : wc.heap.size ≤ ((w1.setCell ⟨w.heap.size + 1 + 1, 2, none⟩ (.pointer (some ⟨w1.heap.size, 0, none⟩))).alloc (.cells #[.slice g0 g1 g2, .slice none 0 0, .pointer g3, .pointer g4, .pointer g5, .pointer g6, .pointer g7, .bool false, .string g8] 175)).heap.size := by simp <;> omega
          have hsz4 : ((w1.setCell ⟨w.heap.size + 1 + 1, 2, none⟩ (.pointer (some ⟨w1.heap.size, 0, none⟩))).alloc (.cells #[.slice g0 g1 g2, .slice none 0 0, .pointer g3, .pointer g4, .pointer g5, .pointer g6, .pointer g7, .bool false, .string g8] 175)).heap.size = w1.heap.size + 1 := by simp
          have hkk : Keeps (FrA (w.heap.size + 1 + 1) wc) wc ((w1.setCell ⟨w.heap.size + 1 + 1, 2, none⟩ (.pointer (some ⟨w1.heap.size, 0, none⟩))).alloc (.cells #[.slice g0 g1 g2, .slice none 0 0, .pointer g3, .pointer g4, .pointer g5, .pointer g6, .pointer g7, .bool false, .string g8] 175)) := by
            intro b hb
            have h1 := hb.1
            have h2 := hb.2
            rw [Below.heap_alloc _ _ _ (by simp <;> omega), Below.heap_setCell _ _ _ _ (by simp only; omega), hb1.block b h2]
          have hkg : Keeps (Fr wc.heap.size w1) w1 ((w1.setCell ⟨w.heap.size + 1 + 1, 2, none⟩ (.pointer (some ⟨w1.heap.size, 0, none⟩))).alloc (.cells #[.slice g0 g1 g2, .slice none 0 0, .pointer g3, .pointer g4, .pointer g5, .pointer g6, .pointer g7, .bool false, .string g8] 175)) := by
            intro b hb
            have h1 := hb.1
            have h2 := hb.2
            rw [Below.heap_alloc _ _ _ (by simpa using h2), Below.heap_setCell _ _ _ _ (by simp only; omega)]
          have hp := H2.out.2
          have hg3 : PAt (FrA (w.heap.size + 1 + 1) ((w1.setCell ⟨w.heap.size + 1 + 1, 2, none⟩ (.pointer (some ⟨w1.heap.size, 0, none⟩))).alloc (.cells #[.slice g0 g1 g2, .slice none 0 0, .pointer g3, .pointer g4, .pointer g5, .pointer g6, .pointer g7, .bool false, .string g8] 175))) ((w1.setCell ⟨w.heap.size + 1 + 1, 2, none⟩ (.pointer (some ⟨w1.heap.size, 0, none⟩))).alloc (.cells #[.slice g0 g1 g2, .slice none 0 0, .pointer g3, .pointer g4, .pointer g5, .pointer g6, .pointer g7, .bool false, .string g8] 175)) .map _ _ := (hg.keeps hkg).mono fun b hb => ⟨by have := hb.1; omega, by have := hb.2; omega⟩
          have hpp : (StrP (FrA (w.heap.size + 1 + 1) ((w1.setCell ⟨w.heap.size + 1 + 1, 2, none⟩ (.pointer (some ⟨w1.heap.size, 0, none⟩))).alloc (.cells #[.slice g0 g1 g2, .slice none 0 0, .pointer g3, .pointer g4, .pointer g5, .pointer g6, .pointer g7, .bool false, .string g8] 175))) ((w1.setCell ⟨w.heap.size + 1 + 1, 2, none⟩ (.pointer (some ⟨w1.heap.size, 0, none⟩))).alloc (.cells #[.slice g0 g1 g2, .slice none 0 0, .pointer g3, .pointer g4, .pointer g5, .pointer g6, .pointer g7, .bool false, .string g8] 175)) 83 (nz sc) (.pointer y0) ∧ PtrP (FrA (w.heap.size + 1 + 1) ((w1.setCell ⟨w.heap.size + 1 + 1, 2, none⟩ (.pointer (some ⟨w1.heap.size, 0, none⟩))).alloc (.cells #[.slice g0 g1 g2, .slice none 0 0, .pointer g3, .pointer g4, .pointer g5, .pointer g6, .pointer g7, .bool false, .string g8] 175))) ((w1.setCell ⟨w.heap.size + 1 + 1, 2, none⟩ (.pointer (some ⟨w1.heap.size, 0, none⟩))).alloc (.cells #[.slice g0 g1 g2, .slice none 0 0, .pointer g3, .pointer g4, .pointer g5, .pointer g6, .pointer g7, .bool false, .string g8] 175)) 167 .list (l.map Ytekaainjpddklaa.S.plain) (.pointer y1)) := ⟨(hp.1.keeps hkk).mono (FrA.grow hsz3), (hp.2.keeps hkk).mono (FrA.grow hsz3)⟩
          have hgl2 := st1.c.lt
          have fz2 := st1.c.free
          have kk := st1.c.cell 2
          simp at kk
          have H3 := hide (And.intro st3 (And.intro hnew (And.intro hpp (And.intro hg3 hsz4))))
          clear st1 st3 hnew hkk hkg hp hpp hg3 hg hb1 hsz3 hsz4
          go_wp2_with fail
          go_meet
          exact ⟨_, rfl, H3.out.1, H3.out.2.2.1, PtrP.some_ ⟨by omega, by rw [H3.out.2.2.2.2]; omega⟩ H3.out.2.1 H3.out.2.2.2.1⟩
      case rest =>
        obtain ⟨v2, rfl, st, ⟨hv0, hv1⟩, hv2⟩ := hcut
        obtain ⟨y2, rfl⟩ := hv2.form
        clear hgl hgl0 hgl1 fz q0 q1 q2 k0 k1 k2
        have hgl := st.c.lt
        have hgl0 := st.a.lt
        have hgl1 := st.b.lt
        have fz := st.c.free
        have q0 := st.a.cell 0
        have q1 := st.a.cell 1
        have q2 := st.a.cell 2
        have k0 := st.c.cell 0
        have k1 := st.c.cell 1
        have k2 := st.c.cell 2
        have fzb := st.b.free
        have r0 := st.b.cell 0
        have r1 := st.b.cell 1
        have r2 := st.b.cell 2
        simp at q0 q1 q2 k0 k1 k2 r0 r1 r2
        have H3 := hide (And.intro st (And.intro hv0 (And.intro hv1 hv2)))
        clear st hv0 hv1 hv2
        go_wp2
        exact ret_Atom rfl _ (by omega) H3.out.1.b H3.out.1.below ((PAt.atom_of (nz_some _) H3.out.2.1 H3.out.2.2.1 H3.out.2.2.2).mono fun b hb => ⟨by have := hb.1; omega, by have := hb.1; omega, hb.2⟩) rfl

/-- impl.toAtom of all types -/
theorem toAtom_all (s : Ytekaainjpddklaa.S) (hs : ∃ sc l m, s = .atom sc l m) : ToAtomOK s := by
  induction hn : SizeOf.sizeOf s using Nat.strongRecOn generalizing s with
  | ind n ih =>
  subst hn
  obtain ⟨sc, l, m, rfl⟩ := hs
  have ref : ∀ t : Ytekaainjpddklaa.S, SizeOf.sizeOf t < SizeOf.sizeOf (Ytekaainjpddklaa.S.atom sc l m) → ToRefOK t := by
    intro t ht w cs h
    have h0 := h
    cases h with
    | @ref b name rel a c0 c1 c2 h1 h2 h3 =>
      refine toRef_of (ih _ ?_ a ?_ rfl) w _ h0
      · simp at ht ⊢
        omega
      · cases h3
        exact ⟨_, _, _, rfl⟩
  refine toAtom_of ?_ ?_
  · intro x hx
    subst hx
    intro w cs h
    have h0 := h
    cases h with
    | @list e rel keys => exact toListType_of (ref e (by simp; omega)) w _ h0
  · intro x hx
    subst hx
    intro w cs h
    have h0 := h
    cases h with
    | @map fs e rel =>
      refine toMap_of (ref e (by simp; omega)) ?_ w _ h0
      intro x hx w cs h
      have h0 := h
      have hlt := lt_list hx
      cases h with
      | @field name t d => exact toField_of (ref t (by simp at hlt ⊢; omega)) w _ h0

theorem toAtom_calls {s : Ytekaainjpddklaa.S} {w : World} {cs : List Value} (h : SAt (Old w) w .atom s cs) : Calls Try.prog 100 #[.agg cs.toArray] w (GivesP .atom s.plain w) := by
  have h0 := h
  cases h
  exact toAtom_all _ ⟨_, _, _, rfl⟩ w _ h0
theorem toRef_calls {s : Ytekaainjpddklaa.S} {w : World} {cs : List Value} (h : SAt (Old w) w .ref s cs) : Calls Try.prog 72 #[.agg cs.toArray] w (GivesP .ref s.plain w) := by
  have h0 := h
  cases h with
  | ref h1 h2 h3 =>
    cases h3
    exact toRef_of (toAtom_all _ ⟨_, _, _, rfl⟩) w _ h0

end Go.Proofs.Ytekaainjpddklaa

/-!
  impl.toSchema.
-/

namespace Go.Proofs.Ytekaainjpddklaa
open Go.RowKit
attribute [local go_sem] run_store_float

/-- a schema's types, as the thin package's struct holds them -/
def SchS (F : Nat → Prop) (w : World) (ts : List Ytekaainjpddklaa.S) (A : Option Addr) (c : Nat) : Prop := ts.length * 80 ≤ R47 ∧ ts.length ≤ c ∧ c ≤ maxLen ∧ ∃ xs, Row F w 4 A ts.length xs ∧ Cells 4 (SAt F w .def_) ts xs
/-- a schema's types, as the package holds them -/
def SchP (F : Nat → Prop) (w : World) (ts : List P) (A : Option Addr) (c : Nat) : Prop := ts.length * 80 ≤ R47 ∧ ts.length ≤ c ∧ c ≤ maxLen ∧ ∃ xs, Row F w 4 A ts.length xs ∧ Cells 4 (PAt F w .def_) ts xs
section
variable {F G : Nat → Prop} {w w' : World} {A : Option Addr} {c : Nat}
theorem SchS.keeps {ts : List Ytekaainjpddklaa.S} (h : SchS F w ts A c) (k : Keeps F w w') : SchS F w' ts A c := by
  obtain ⟨h1, h2, h3, xs, h4, h5⟩ := h
  exact ⟨h1, h2, h3, xs, h4.keeps k, h5.mono fun _ _ h => h.keeps k⟩
theorem SchS.mono {ts : List Ytekaainjpddklaa.S} (h : SchS F w ts A c) (k : ∀ b, F b → G b) : SchS G w ts A c := by
  obtain ⟨h1, h2, h3, xs, h4, h5⟩ := h
  exact ⟨h1, h2, h3, xs, h4.mono k, h5.mono fun _ _ h => h.mono k⟩
theorem SchS.at_ {ts : List Ytekaainjpddklaa.S} (h : SchS (Old w) w ts A c) (hb : Below w.heap.size w w') : SchS (Old w') w' ts A c := (h.keeps (Keeps.below hb fun _ h => h)).mono fun _ h => Nat.lt_of_lt_of_le h hb.size
theorem SchP.keeps {ts : List P} (h : SchP F w ts A c) (k : Keeps F w w') : SchP F w' ts A c := by
  obtain ⟨h1, h2, h3, xs, h4, h5⟩ := h
  exact ⟨h1, h2, h3, xs, h4.keeps k, h5.mono fun _ _ h => h.keeps k⟩
theorem SchP.mono {ts : List P} (h : SchP F w ts A c) (k : ∀ b, F b → G b) : SchP G w ts A c := by
  obtain ⟨h1, h2, h3, xs, h4, h5⟩ := h
  exact ⟨h1, h2, h3, xs, h4.mono k, h5.mono fun _ _ h => h.mono k⟩
theorem SchP.at_ {ts : List P} (h : SchP (Old w) w ts A c) (hb : Below w.heap.size w w') : SchP (Old w') w' ts A c := (h.keeps (Keeps.below hb fun _ h => h)).mono fun _ h => Nat.lt_of_lt_of_le h hb.size
theorem SAt.def_form {s : Ytekaainjpddklaa.S} {cs : List Value} (h : SAt F w .def_ s cs) : ∃ (nm sc : ByteArray) (A : Option Addr) (n c : Nat) (B : Option Addr) (m d : Nat) (a : Ytekaainjpddklaa.S), s = .def_ nm a ∧ cs = [.string nm, .string sc, .slice A n c, .slice B m d] ∧ nm.size ≤ R47 ∧ SAt F w .atom a [.string sc, .slice A n c, .slice B m d] := by
  cases h with
  | def_ h1 h =>
    have h0 := h
    obtain ⟨_, _, _, _, _, _, _, e⟩ := h.atom_form
    simp only [List.cons.injEq, and_true] at e
    obtain ⟨rfl, rfl, rfl⟩ := e
    exact ⟨_, _, _, _, _, _, _, _, _, rfl, rfl, h1, h0⟩
theorem PAt.def_form {s : P} {cs : List Value} (h : PAt F w .def_ s cs) : ∃ (nm : ByteArray) (x y z : Option Addr) (a : P), s = .def_ nm a ∧ cs = [.string nm, .pointer x, .pointer y, .pointer z] ∧ nm.size ≤ R47 ∧ PAt F w .atom a [.pointer x, .pointer y, .pointer z] := by
  cases h with
  | def_ h1 h =>
    have h0 := h
    obtain ⟨_, _, _, e⟩ := h.atom_form
    simp only [List.cons.injEq, and_true] at e
    obtain ⟨rfl, rfl, rfl⟩ := e
    exact ⟨_, _, _, _, _, rfl, rfl, h1, h0⟩
end
/-- a schema handed back by pointer; its memory is new -/
def GivesSch (ts : List P) (w : World) (e : Ending) (w' : World) : Prop := ∃ (g : Nat) (A : Option Addr) (c : Nat), e = .returned (.pointer (some ⟨g, 0, none⟩)) ∧ Fr w.heap.size w' g ∧ Bk w' g 162 #[.slice A ts.length c] ∧ SchP (Fr w.heap.size w') w' ts A c ∧ Below w.heap.size w w'

theorem tdef_info : (Try.prog.info? 94).map (fun i => (i.zero, i.size, i.bytes)) = some (some (.agg #[.string ⟨#[]⟩, .pointer none, .pointer none, .pointer none]), 4, 40) := by kernel_rfl

/-- at the head of a round of toSchema -/
def TSInv (w : World) (box : Array Value) (L : List P) (s : Value) (W : World) : Prop :=
  ∃ (k : Nat) (out : Value) (us : List Value), s = .int .i64 (k : Int) ∧ k ≤ L.length ∧ Q2 w 33 162 box #[out] W ∧ W.ownsRow (w.heap.size + 1 + 1) 94 4 out k us ∧ Cells 4 (PAt (FrX (w.heap.size + 1 + 1) W out) W .def_) (L.take k) us ∧ w.heap.size + 1 + 1 ≤ W.heap.size

set_option maxRecDepth 100000 in
set_option maxHeartbeats 4000000 in
theorem toSchema_calls {ts : List Ytekaainjpddklaa.S} {TA : Option Addr} {tc : Nat} {w : World} (h : SchS (Old w) w ts TA tc) : Calls Try.prog 63 #[.agg #[.slice TA ts.length tc]] w (GivesSch (ts.map Ytekaainjpddklaa.S.plain) w) := by
  obtain ⟨h1, h2, h3, xs, h4, h5⟩ := h
  have h1' : ts.length * 80 ≤ 140737488351232 := h1
  have H7 := hide (And.intro h1 (And.intro h4 h5))
  obtain ⟨i9, hi9, hz9, hs9, hb9⟩ := info_parts tdef_info
  clear h1 h4 h5
  go_enter Try.func63, Try.ntmps63
  go_upto_region 2 with fail
  have st : Q2 w 33 162 #[.slice TA ts.length tc] #[.slice none 0 0] _ := Q2.made w 33 162 #[.slice TA ts.length tc] #[.slice none 0 0]
  have hWs : w.heap.size + 1 + 1 ≤ ((w.alloc (.cells #[.slice TA ts.length tc] 33)).alloc (.cells #[.slice none 0 0] 162)).heap.size := by simp
  generalize World.alloc (World.alloc w _) _ = W at st hWs ⊢
  have q0 := st.a.cell 0
  simp at q0
  have hgl0 := st.a.lt
  have H2 := hide (And.intro st hWs)
  clear st hWs
  go_wp2_with fail
  go_loopw [11] (fun s W => TSInv w #[.slice TA ts.length tc] (ts.map Ytekaainjpddklaa.S.plain) s W) (fun s _ => ts.length - (intOf s).toNat)
  case atStart => exact ⟨0, .slice none 0 0, [], rfl, Nat.zero_le _, H2.out.1, World.ownsRow_nil _ _ _ _, Cells.nil_, H2.out.2⟩
  case round =>
    obtain ⟨k, out, us, rfl, hk, hq, hown, hus, hB⟩ := hrel
    rw [List.length_map] at hk
    by_cases hlt : k < ts.length
    · have hki0 : (0 : Int) ≤ (k : Int) := Int.natCast_nonneg _
      have hki1 : (k : Int) < (ts.length : Int) := by omega
      have hx := H7.out.2.2.at_ hlt
      have hsn : (ts.map Ytekaainjpddklaa.S.plain).take (k + 1) = (ts.map Ytekaainjpddklaa.S.plain).take k ++ [ts[k].plain] := by rw [List.take_succ_eq_append_getElem (by simpa using hlt), List.getElem_map]
      generalize ts[k] = fx at *
      generalize hcs : (xs.drop (k * 4)).take 4 = fcs at hx
      obtain ⟨nm, sc, LA, ln, lc, MA, mn, mc, a, rfl, rfl, hn, ha⟩ := hx.def_form
      obtain ⟨rb, ro, rfl, hF, hc⟩ := rown_at H7.out.2.1 hlt hcs
      have hkc0 := hc 0 _ rfl
      rw [Nat.add_zero] at hkc0
      have hkc1 := hc 1 _ rfl
      have hkc2 := hc 2 _ rfl
      have hkc3 := hc 3 _ rfl
      have ec := (bcell hq.below).1
      rw [← ec _ _ hF] at hkc0 hkc1 hkc2 hkc3
      have hrb : rb < w.heap.size := hF
      have hgl0 := hq.a.lt
      have hgl1 := hq.b.lt
      rw [Ytekaainjpddklaa.S.plain] at hsn
      have Hq := hide (And.intro hq (And.intro hown (And.intro hus (And.intro hB (And.intro ha (And.intro hsn hn))))))
      clear hq hown hus hB hx ha hsn hn hcs hc ec
      go_wp2_with fail
      have hbA : Below wr.heap.size wr (wr.alloc (.cells #[.string nm, .string sc, .slice LA ln lc, .slice MA mn mc] 42)) := (Below.refl _ _).alloc (Nat.le_refl _) _
      have hS0 : Bk (wr.alloc (.cells #[.string nm, .string sc, .slice LA ln lc, .slice MA mn mc] 42)).drew wr.heap.size 42 #[.string nm, .string sc, .slice LA ln lc, .slice MA mn mc] ∧ Bk (wr.alloc (.cells #[.string nm, .string sc, .slice LA ln lc, .slice MA mn mc] 42)).drew (w.heap.size + 1) 162 #[out] := ⟨Bk.new _ _ _, Hq.out.1.b.alloc _⟩
      obtain ⟨S, hS⟩ : ∃ S, (fun W => Bk W wr.heap.size 42 #[.string nm, .string sc, .slice LA ln lc, .slice MA mn mc] ∧ Bk W (w.heap.size + 1) 162 #[out]) = S := ⟨_, rfl⟩
      have hS0 : S (wr.alloc (.cells #[.string nm, .string sc, .slice LA ln lc, .slice MA mn mc] 42)).drew := by rw [← hS]; exact hS0
      refine wp_region_head 13 S (by rfl) (by kernel_rfl) ?_
      refine HT.take 0 (v := ?_) rfl (by kernel_rfl) (fun _ _ _ h => h) (Or.inl ⟨by rfl, ?_⟩) (by assumption) ?_
      rotate_left
      · intro W hSw; rw [← hS] at hSw; have hSw := show Bk W wr.heap.size 42 #[.string nm, .string sc, .slice LA ln lc, .slice MA mn mc] ∧ Bk W (w.heap.size + 1) 162 #[out] from hSw; have y0 := hSw.2.cell 0; have yl := hSw.2.lt; obtain ⟨hSw, -⟩ := hSw; have s0 := hSw.cell 0; have s1 := hSw.cell 1; have s2 := hSw.cell 2; have s3 := hSw.cell 3; clear hSw; simp at y0 s0 s1 s2 s3; go_simp; with_reducible rfl
      simp only [Act.put, List.setIfInBounds_toArray, List.set_cons_zero, List.set_cons_succ]
      refine HT.take 1 (v := ?_) rfl (by kernel_rfl) (fun _ _ _ h => h) (Or.inl ⟨by rfl, ?_⟩) (by assumption) ?_
      rotate_left
      · intro W hSw; rw [← hS] at hSw; have hSw := show Bk W wr.heap.size 42 #[.string nm, .string sc, .slice LA ln lc, .slice MA mn mc] ∧ Bk W (w.heap.size + 1) 162 #[out] from hSw; have y0 := hSw.2.cell 0; have yl := hSw.2.lt; obtain ⟨hSw, -⟩ := hSw; have s0 := hSw.cell 0; have s1 := hSw.cell 1; have s2 := hSw.cell 2; have s3 := hSw.cell 3; clear hSw; simp at y0 s0 s1 s2 s3; go_simp; with_reducible rfl
      simp only [Act.put, List.setIfInBounds_toArray, List.set_cons_zero, List.set_cons_succ]
      refine HT.take 2 (v := ?_) rfl (by kernel_rfl) (fun _ _ _ h => h) (Or.inl ⟨by rfl, ?_⟩) (by assumption) ?_
      rotate_left
      · intro W hSw; rw [← hS] at hSw; have hSw := show Bk W wr.heap.size 42 #[.string nm, .string sc, .slice LA ln lc, .slice MA mn mc] ∧ Bk W (w.heap.size + 1) 162 #[out] from hSw; have y0 := hSw.2.cell 0; have yl := hSw.2.lt; obtain ⟨hSw, -⟩ := hSw; have s0 := hSw.cell 0; have s1 := hSw.cell 1; have s2 := hSw.cell 2; have s3 := hSw.cell 3; clear hSw; simp at y0 s0 s1 s2 s3; go_simp; with_reducible rfl
      simp only [Act.put, List.setIfInBounds_toArray, List.set_cons_zero, List.set_cons_succ]
      refine HT.take 3 (v := ?_) rfl (by kernel_rfl) (fun _ _ _ h => h) (Or.inl ⟨by rfl, ?_⟩) (by assumption) ?_
      rotate_left
      · intro W hSw; rw [← hS] at hSw; have hSw := show Bk W wr.heap.size 42 #[.string nm, .string sc, .slice LA ln lc, .slice MA mn mc] ∧ Bk W (w.heap.size + 1) 162 #[out] from hSw; have y0 := hSw.2.cell 0; have yl := hSw.2.lt; obtain ⟨hSw, -⟩ := hSw; have s0 := hSw.cell 0; have s1 := hSw.cell 1; have s2 := hSw.cell 2; have s3 := hSw.cell 3; clear hSw; simp at y0 s0 s1 s2 s3; go_simp; with_reducible rfl
      simp only [Act.put, List.setIfInBounds_toArray, List.set_cons_zero, List.set_cons_succ]
      refine HT.take 4 (v := ?_) rfl (by kernel_rfl) (fun _ _ _ h => h) (Or.inl ⟨by rfl, ?_⟩) (by assumption) ?_
      rotate_left
      · intro W hSw; rw [← hS] at hSw; have hSw := show Bk W wr.heap.size 42 #[.string nm, .string sc, .slice LA ln lc, .slice MA mn mc] ∧ Bk W (w.heap.size + 1) 162 #[out] from hSw; have y0 := hSw.2.cell 0; have yl := hSw.2.lt; obtain ⟨hSw, -⟩ := hSw; have s0 := hSw.cell 0; have s1 := hSw.cell 1; have s2 := hSw.cell 2; have s3 := hSw.cell 3; clear hSw; simp at y0 s0 s1 s2 s3; go_simp; with_reducible rfl
      simp only [Act.put, List.setIfInBounds_toArray, List.set_cons_zero, List.set_cons_succ]
      refine HT.take 5 (v := ?_) rfl (by kernel_rfl) (fun _ _ _ h => h) (Or.inl ⟨by rfl, ?_⟩) (by assumption) ?_
      rotate_left
      · intro W hSw; rw [← hS] at hSw; have hSw := show Bk W wr.heap.size 42 #[.string nm, .string sc, .slice LA ln lc, .slice MA mn mc] ∧ Bk W (w.heap.size + 1) 162 #[out] from hSw; have y0 := hSw.2.cell 0; have yl := hSw.2.lt; obtain ⟨hSw, -⟩ := hSw; have s0 := hSw.cell 0; have s1 := hSw.cell 1; have s2 := hSw.cell 2; have s3 := hSw.cell 3; clear hSw; simp at y0 s0 s1 s2 s3; go_simp; with_reducible rfl
      simp only [Act.put, List.setIfInBounds_toArray, List.set_cons_zero, List.set_cons_succ]
      refine HT.take 6 (v := ?_) rfl (by kernel_rfl) (fun _ _ _ h => h) (Or.inl ⟨by rfl, ?_⟩) (by assumption) ?_
      rotate_left
      · intro W hSw; rw [← hS] at hSw; have hSw := show Bk W wr.heap.size 42 #[.string nm, .string sc, .slice LA ln lc, .slice MA mn mc] ∧ Bk W (w.heap.size + 1) 162 #[out] from hSw; have y0 := hSw.2.cell 0; have yl := hSw.2.lt; obtain ⟨hSw, -⟩ := hSw; have s0 := hSw.cell 0; have s1 := hSw.cell 1; have s2 := hSw.cell 2; have s3 := hSw.cell 3; clear hSw; simp at y0 s0 s1 s2 s3; go_simp; with_reducible rfl
      simp only [Act.put, List.setIfInBounds_toArray, List.set_cons_zero, List.set_cons_succ]
      refine HT.take 7 (v := ?_) rfl (by kernel_rfl) (fun _ _ _ h => h) (Or.inl ⟨by rfl, ?_⟩) (by assumption) ?_
      rotate_left
      · intro W hSw; rw [← hS] at hSw; have hSw := show Bk W wr.heap.size 42 #[.string nm, .string sc, .slice LA ln lc, .slice MA mn mc] ∧ Bk W (w.heap.size + 1) 162 #[out] from hSw; have y0 := hSw.2.cell 0; have yl := hSw.2.lt; obtain ⟨hSw, -⟩ := hSw; have s0 := hSw.cell 0; have s1 := hSw.cell 1; have s2 := hSw.cell 2; have s3 := hSw.cell 3; clear hSw; simp at y0 s0 s1 s2 s3; go_simp; with_reducible rfl
      simp only [Act.put, List.setIfInBounds_toArray, List.set_cons_zero, List.set_cons_succ]
      refine HT.take 8 (v := ?_) rfl (by kernel_rfl) (fun _ _ _ h => h) (Or.inl ⟨by rfl, ?_⟩) (by assumption) ?_
      rotate_left
      · intro W hSw; rw [← hS] at hSw; have hSw := show Bk W wr.heap.size 42 #[.string nm, .string sc, .slice LA ln lc, .slice MA mn mc] ∧ Bk W (w.heap.size + 1) 162 #[out] from hSw; have y0 := hSw.2.cell 0; have yl := hSw.2.lt; obtain ⟨hSw, -⟩ := hSw; have s0 := hSw.cell 0; have s1 := hSw.cell 1; have s2 := hSw.cell 2; have s3 := hSw.cell 3; clear hSw; simp at y0 s0 s1 s2 s3; go_simp; with_reducible rfl
      simp only [Act.put, List.setIfInBounds_toArray, List.set_cons_zero, List.set_cons_succ]
      refine HT.one 9 rfl (by kernel_rfl) (by rfl) (fun K hK => ?_)
      go_simp
      have hbw : Below w.heap.size w (wr.alloc (.cells #[.string nm, .string sc, .slice LA ln lc, .slice MA mn mc] 42)).drew := below_drew (Hq.out.1.below.trans (hbA.mono Hq.out.1.below.size))
      refine (toAtom_calls (Hq.out.2.2.2.2.1.at_ hbw)).mono ?_
      rintro e w1 ⟨gs, rfl, hp, hb1⟩
      have hb1' := hb1
      have hp : PAt (Fr wr.heap.size w1) w1 .atom _ gs := hp.mono fun b hb => ⟨by have := hb.1; rw [World.size_drew, World.size_alloc] at this; omega, hb.2⟩
      have hb1 : Below wr.heap.size wr w1 := hbA.trans ((below_drew' hb1).mono hbA.size)
      obtain ⟨z0, z1, z2, rfl⟩ := hp.atom_form
      go_simp
      have hS1 : S w1 := by rw [← hS]; exact ⟨(Bk.new wr _ _).below (below_drew' hb1') (by simp), Hq.out.1.b.below hb1 Hq.out.1.b.lt⟩
      refine hK.out _ _ hS1 ?_
      clear hK
      refine HT.take 10 (v := ?_) rfl (by kernel_rfl) (fun _ _ _ h => h) (Or.inl ⟨by rfl, ?_⟩) (by assumption) ?_
      rotate_left
      · intro W hSw; go_simp; with_reducible rfl
      simp only [Act.put, List.setIfInBounds_toArray, List.set_cons_zero, List.set_cons_succ]
      refine HT.one 11 rfl (by kernel_rfl) (by rfl) (fun K hK => ?_)
      go_simp
      have hbL : Below wr.heap.size wr (w1.alloc (.cells #[.string nm, .pointer z0, .pointer z1, .pointer z2] 94)) := hb1.alloc hb1.size _
      refine hK.out _ _ (by rw [← hS]; exact ⟨((Bk.new wr _ _).below (below_drew' hb1') (by simp)).alloc _, Hq.out.1.b.below hbL Hq.out.1.b.lt⟩) ?_
      clear hK
      refine HT.one 12 rfl (by kernel_rfl) (by rfl) (fun K hK => ?_)
      have hownL := (ownsRow_below Hq.out.2.1 hb1 (Nat.le_refl _)).alloc (.cells #[.string nm, .pointer z0, .pointer z1, .pointer z2] 94)
      have hszL := hbL.size
      refine wp_append_row _ (.tmp 19) (.tmp 26) 160 rfl (w.heap.size + 1 + 1) 94 i9 _ 4 40 Try.underlying160 hi9 hz9 hs9 hb9 rfl (by omega) _ k us rfl hownL (fun _ => True) (some ⟨w1.heap.size, 0, none⟩) 1 1 [.string nm, .pointer z0, .pointer z1, .pointer z2] rfl (Row.of_bk (Bk.new w1 94 [.string nm, .pointer z0, .pointer z1, .pointer z2].toArray) rfl trivial) (by simp [Value.oneCell']) (by omega) (by omega) (by have := Hq.out.2.2.2.1; omega) ?_
      intro out' w2 hown2 hg2 hat2
      have hlo : ∀ k, out.ownBlock = some k → w.heap.size + 1 + 1 ≤ k ∧ k < wr.heap.size := Hq.out.2.1.lt
      have hqL := Hq.out.1.call hbL
      have hq2 : Q2 w 33 162 #[.slice (some ⟨rb, ro, none⟩) ts.length tc] #[out'] (w2.setCell ⟨w.heap.size + 1, 0, none⟩ out') := by
        refine ⟨(hqL.below.grown hg2 hqL.below.size fun k e => by have := hlo k e; omega).setCell (by simp only; omega) _, (hqL.a.grown hg2 (fun e => by have := (hlo _ e.symm).1; omega)).far (by simp only; omega) _, ?_⟩
        have := (hqL.b.grown hg2 (fun e => by have := (hlo _ e.symm).1; omega)).set_ 0 out'
        simpa using this
      have hcs := cells_step (Q := fun F w a cs => PAt F w .def_ a cs) (a := P.def_ nm a.plain) (fun h k => h.keeps k) (fun h k => h.mono k) Hq.out.2.1 Hq.out.2.2.1 Hq.out.2.2.2.1 (.def_ Hq.out.2.2.2.2.2.2 hp) rfl hb1 hg2 hat2
      have hbk2 : Bk w2 wr.heap.size 42 #[.string nm, .string sc, .slice LA ln lc, .slice MA mn mc] := (((Bk.new wr _ _).below (below_drew' hb1') (by simp)).alloc _).grown hg2 (fun e => by have := (hlo _ e.symm).2; omega)
      have hgb2 : Bk w2 (w.heap.size + 1) 162 #[out] := hqL.b.grown hg2 (fun e => by have := (hlo _ e.symm).1; omega)
      have hsz2 : w.heap.size + 1 + 1 ≤ (w2.setCell ⟨w.heap.size + 1, 0, none⟩ out').heap.size := by
        have := hcs.2
        simpa using this
      have hcs2 : Cells 4 (PAt (FrX (w.heap.size + 1 + 1) (w2.setCell ⟨w.heap.size + 1, 0, none⟩ out') out') (w2.setCell ⟨w.heap.size + 1, 0, none⟩ out') .def_) ((ts.map Ytekaainjpddklaa.S.plain).take (k + 1)) (us ++ [.string nm, .pointer z0, .pointer z1, .pointer z2]) := by
        rw [Hq.out.2.2.2.2.2.1]
        refine hcs.1.mono fun a cs h => (h.keeps (Keeps.setCell _ _ _ fun x hx => ?_)).mono fun b hb => ⟨hb.1, by simpa using hb.2.1, hb.2.2⟩
        have := hx.1
        simp only
        omega
      have hown3 := ownsRow_setCell_below hown2 (a := ⟨w.heap.size + 1, 0, none⟩) (by simp only; omega) out'
      have hgl2 := hgb2.lt
      have fz2 := hgb2.free
      have yy := hgb2.cell 0
      simp at yy
      have Hfin := hide (And.intro hq2 (And.intro hown3 (And.intro hcs2 hsz2)))
      obtain ⟨oA, oc, rfl, _, _⟩ := own_form hown2
      go_simp
      refine hK.out _ _ (by rw [← hS]; exact ⟨hbk2, hgb2⟩) ?_
      clear hK
      refine HT.done (by kernel_rfl) ?_
      simp only [List.drop_succ_cons, List.drop_zero]
      clear hS0 hS hS1 hbL hownL hszL hown2 hg2 hat2 hlo hq2 hqL hcs hbk2 hgb2 hsz2 hcs2 hown3 hp hb1 hb1' hbw hbA
      go_wp2_with fail
      exact ⟨⟨k + 1, _, _, by go_num, by rw [List.length_map]; omega, Hfin.out.1, Hfin.out.2.1, Hfin.out.2.2.1, Hfin.out.2.2.2⟩, by simp [intOf]; omega⟩
    · have hke : k = ts.length := by omega
      subst hke
      have hki1 : ¬ ((ts.length : Nat) : Int) < (ts.length : Int) := by omega
      rw [List.take_of_length_le (by rw [List.length_map]; omega)] at hus
      obtain ⟨oA, oc, rfl, hc1, hc2⟩ := own_form hown
      have hlt := hown.lt
      have hfin : SchP (Fr w.heap.size wr) wr (ts.map Ytekaainjpddklaa.S.plain) oA oc := by
        refine ⟨by rw [List.length_map]; exact H7.out.1, by rw [List.length_map]; exact hc1, hc2, us, by rw [List.length_map]; exact Row.of_own hown fun b hb => ⟨by have := (hlt b hb).1; omega, (hlt b hb).2⟩, hus.mono fun a cs h => h.mono fun b hb => ⟨by have := hb.1; omega, hb.2.1⟩⟩
      have H3 := hide (And.intro hq hfin)
      have hlm : ts.length = (ts.map Ytekaainjpddklaa.S.plain).length := by simp
      have Hlm := hide hlm
      clear hq hown hus hB hlt hc1 hc2 hfin hlm
      go_wp2
      go_ret
      exact ⟨w.heap.size + 1, oA, oc, rfl, ⟨by omega, H3.out.1.b.lt⟩, by rw [← Hlm.out]; exact H3.out.1.b, H3.out.2, H3.out.1.below⟩

end Go.Proofs.Ytekaainjpddklaa
