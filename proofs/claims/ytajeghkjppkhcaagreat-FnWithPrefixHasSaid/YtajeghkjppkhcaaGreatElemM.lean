/-
  Steps of paths in memory: the thin package's struct, and the package's own.
-/
import Derived.Test.YtajeghkjppkhcaaGreatPathA
import Derived.Test.YtajeghkjppkhcaaGreatCellsA
import Derived.Test.YtajeghkjppkhcaaGreatLaw
set_option linter.unusedVariables false
set_option linter.unusedSimpArgs false
namespace Go.Proofs.YtajeghkjppkhcaaGreat
open Go.RowKit

/-- A step of the thin package, as the eleven cells of its struct. -/
inductive ElemAt (F : Nat → Prop) (w : World) : REl → List Value → Prop
  | mk {kind n : Int} {s : ByteArray} {keys : List ByteArray} {l : List RV} {v : RV} {KA LA : Option Addr} {kc lc : Nat} {v0 v1 : Int} {v2 : Nat} {v3 : ByteArray} {vA vB : Option Addr} {vn vc vm vd : Nat} :
    okInt kind → s.size ≤ R47 → RVAt F w (.mk 0 0 0 ⟨#[]⟩ keys l) [.int .i64 0, .int .i64 0, .float .f64 0, .string ⟨#[]⟩, .slice KA keys.length kc, .slice LA l.length lc] →
    RVAt F w v [.int .i64 v0, .int .i64 v1, .float .f64 v2, .string v3, .slice vA vn vc, .slice vB vm vd] → okInt n →
    ElemAt F w ⟨kind, s, keys, l, v, n⟩ [.int .i64 kind, .string s, .slice KA keys.length kc, .slice LA l.length lc, .int .i64 v0, .int .i64 v1, .float .f64 v2, .string v3, .slice vA vn vc, .slice vB vm vd, .int .i64 n]
section
variable {F G : Nat → Prop} {w w' : World} {r : REl} {cs : List Value}
theorem ElemAt.keeps (h : ElemAt F w r cs) (k : Keeps F w w') : ElemAt F w' r cs := by
  cases h with
  | mk h1 h2 h3 h4 h5 => exact .mk h1 h2 (h3.keeps k) (h4.keeps k) h5
theorem ElemAt.mono (h : ElemAt F w r cs) (k : ∀ b, F b → G b) : ElemAt G w r cs := by
  cases h with
  | mk h1 h2 h3 h4 h5 => exact .mk h1 h2 (h3.mono k) (h4.mono k) h5
theorem ElemAt.at_ (h : ElemAt (Old w) w r cs) (hb : Below w.heap.size w w') : ElemAt (Old w') w' r cs := (h.keeps (Keeps.below hb fun _ h => h)).mono fun _ h => Nat.lt_of_lt_of_le h hb.size
theorem ElemAt.form (h : ElemAt F w r cs) : ∃ (k0 : Int) (k1 : ByteArray) (KA : Option Addr) (kn kc : Nat) (LA : Option Addr) (ln lc : Nat) (v0 v1 : Int) (v2 : Nat) (v3 : ByteArray) (vA : Option Addr) (vn vc : Nat) (vB : Option Addr) (vm vd : Nat) (n : Int),
    cs = [.int .i64 k0, .string k1, .slice KA kn kc, .slice LA ln lc, .int .i64 v0, .int .i64 v1, .float .f64 v2, .string v3, .slice vA vn vc, .slice vB vm vd, .int .i64 n] := by
  cases h; exact ⟨_, _, _, _, _, _, _, _, _, _, _, _, _, _, _, _, _, _, _, rfl⟩
end

/-- one field of a key, as the package holds it -/
def FldAt (F : Nat → Prop) (w : World) (p : ByteArray × T) (cs : List Value) : Prop := ∃ g : Addr, cs = [.string p.1, .iface 249 (.pointer (some g))] ∧ p.1.size ≤ R47 ∧ ValAt F w p.2 (.iface 249 (.pointer (some g)))
/-- a list of fields -/
def FLAt (F : Nat → Prop) (w : World) (l : List (ByteArray × T)) (A : Option Addr) (c : Nat) : Prop := l.length ≤ c ∧ c ≤ maxLen ∧ l.length * 88 ≤ R47 ∧ ∃ xs, Row F w 2 A l.length xs ∧ Cells 2 (FldAt F w) l xs
/-- A step of the package: four pointers, of which one leads somewhere. -/
inductive PEAt (F : Nat → Prop) (w : World) : E → List Value → Prop
  | field {s : ByteArray} {g : Nat} : s.size ≤ R47 → F g → Bk w g 9 #[.string s] → PEAt F w (.field s) [.pointer (some ⟨g, 0, none⟩), .pointer none, .pointer none, .pointer none]
  | key {l : List (ByteArray × T)} {g : Nat} {A : Option Addr} {c : Nat} : F g → Bk w g 169 #[.slice A l.length c] → FLAt F w l A c → PEAt F w (.key l) [.pointer none, .pointer (some ⟨g, 0, none⟩), .pointer none, .pointer none]
  | val {t : T} {g : Nat} {p : Addr} : F g → Bk w g 99 #[.iface 249 (.pointer (some p))] → ValAt F w t (.iface 249 (.pointer (some p))) → PEAt F w (.val t) [.pointer none, .pointer none, .pointer (some ⟨g, 0, none⟩), .pointer none]
  | idx {n : Int} {g : Nat} : okInt n → F g → Bk w g 3 #[.int .i64 n] → PEAt F w (.idx n) [.pointer none, .pointer none, .pointer none, .pointer (some ⟨g, 0, none⟩)]
section
variable {F G : Nat → Prop} {w w' : World}
theorem FldAt.keeps {p : ByteArray × T} {cs : List Value} (h : FldAt F w p cs) (k : Keeps F w w') : FldAt F w' p cs := by
  obtain ⟨g, e, h1, h2⟩ := h
  exact ⟨g, e, h1, h2.keeps k⟩
theorem FldAt.mono {p : ByteArray × T} {cs : List Value} (h : FldAt F w p cs) (k : ∀ b, F b → G b) : FldAt G w p cs := by
  obtain ⟨g, e, h1, h2⟩ := h
  exact ⟨g, e, h1, h2.mono k⟩
theorem FLAt.keeps {l : List (ByteArray × T)} {A : Option Addr} {c : Nat} (h : FLAt F w l A c) (k : Keeps F w w') : FLAt F w' l A c := by
  obtain ⟨h1, h2, h3, xs, h4, h5⟩ := h
  exact ⟨h1, h2, h3, xs, h4.keeps k, h5.mono fun a cs h => h.keeps k⟩
theorem FLAt.mono {l : List (ByteArray × T)} {A : Option Addr} {c : Nat} (h : FLAt F w l A c) (k : ∀ b, F b → G b) : FLAt G w l A c := by
  obtain ⟨h1, h2, h3, xs, h4, h5⟩ := h
  exact ⟨h1, h2, h3, xs, h4.mono k, h5.mono fun a cs h => h.mono k⟩
theorem FLAt.at_ {l : List (ByteArray × T)} {A : Option Addr} {c : Nat} (h : FLAt (Old w) w l A c) (hb : Below w.heap.size w w') : FLAt (Old w') w' l A c := (h.keeps (Keeps.below hb fun _ h => h)).mono fun _ h => Nat.lt_of_lt_of_le h hb.size
theorem PEAt.keeps {e : E} {cs : List Value} (h : PEAt F w e cs) (k : Keeps F w w') : PEAt F w' e cs := by
  cases h with
  | field h1 h2 h3 => exact .field h1 h2 ((k _ h2).trans h3)
  | key h1 h2 h3 => exact .key h1 ((k _ h1).trans h2) (h3.keeps k)
  | val h1 h2 h3 => exact .val h1 ((k _ h1).trans h2) (h3.keeps k)
  | idx h1 h2 h3 => exact .idx h1 h2 ((k _ h2).trans h3)
theorem PEAt.mono {e : E} {cs : List Value} (h : PEAt F w e cs) (k : ∀ b, F b → G b) : PEAt G w e cs := by
  cases h with
  | field h1 h2 h3 => exact .field h1 (k _ h2) h3
  | key h1 h2 h3 => exact .key (k _ h1) h2 (h3.mono k)
  | val h1 h2 h3 => exact .val (k _ h1) h2 (h3.mono k)
  | idx h1 h2 h3 => exact .idx h1 (k _ h2) h3
theorem PEAt.at_ {e : E} {cs : List Value} (h : PEAt (Old w) w e cs) (hb : Below w.heap.size w w') : PEAt (Old w') w' e cs := (h.keeps (Keeps.below hb fun _ h => h)).mono fun _ h => Nat.lt_of_lt_of_le h hb.size
theorem PEAt.form {e : E} {cs : List Value} (h : PEAt F w e cs) : ∃ a b c d : Option Addr, cs = [.pointer a, .pointer b, .pointer c, .pointer d] := by
  cases h <;> exact ⟨_, _, _, _, rfl⟩
end
/-- a step handed back; its memory is new -/
def GivesPE (e : E) (w : World) (en : Ending) (w' : World) : Prop := ∃ cs : List Value, en = .returned (.agg cs.toArray) ∧ PEAt (Fr w.heap.size w') w' e cs ∧ Below w.heap.size w w'
/-- fields handed back -/
def GivesFL (l : List (ByteArray × T)) (w : World) (en : Ending) (w' : World) : Prop := ∃ A c, en = .returned (.slice A l.length c) ∧ FLAt (Fr w.heap.size w') w' l A c ∧ Below w.heap.size w w'

theorem field_info : (Tryz.prog.info? 239).map (fun i => (i.zero, i.size, i.bytes)) = some (some (.agg #[.string ⟨#[]⟩, .nilIface]), 2, 32) := by kernel_rfl

/-- the fields that k keys make -/
def zipK (keys : List ByteArray) (l : List RV) (k : Nat) : List (ByteArray × T) := (keys.zip (l.map RV.tree)).take k
def TKInv (w : World) (keys : List ByteArray) (l : List RV) (B : Nat) (out ctr : Value) (wr : World) : Prop :=
  ∃ (k : Nat) (us : List Value), k ≤ keys.length ∧ ctr = .int .i64 k ∧ wr.ownsRow B 239 2 out (zipK keys l k).length us ∧ Cells 2 (FldAt (FrX B wr out) wr) (zipK keys l k) us ∧ Below w.heap.size w wr ∧ B ≤ wr.heap.size

theorem tk_step {w wr w1 w2 : World} {B n : Nat} {L : List (ByteArray × T)} {key : ByteArray} {t : T} {out out' : Value} {us : List Value} {g : Addr} {o2 : Obj} (hwB : w.heap.size ≤ B) (hown : wr.ownsRow B 239 2 out n us) (hus : Cells 2 (FldAt (FrX B wr out) wr) L us) (hb : Below w.heap.size w wr) (hB : B ≤ wr.heap.size) (hk : key.size ≤ R47)
    (hv : ValAt (Fr wr.heap.size w1) w1 t (.iface 249 (.pointer (some g)))) (hb1 : Below wr.heap.size wr w1)
    (hown2 : w2.ownsRow B 239 2 out' (n + 1) (us ++ [.string key, .iface 249 (.pointer (some g))])) (hg2 : (w1.alloc o2).grownBy w2 out.ownBlock) (hat : out'.ownBlock = out.ownBlock ∨ out'.ownBlock = some (w1.alloc o2).heap.size) :
    Cells 2 (FldAt (FrX B w2 out') w2) (L ++ [(key, t)]) (us ++ [.string key, .iface 249 (.pointer (some g))]) ∧ Below w.heap.size w w2 ∧ B ≤ w2.heap.size := by
  have s0 := hb.size
  have s1 := hb1.size
  have s2 := hg2.size
  simp only [World.size_alloc] at s2
  have hlt := hown.lt
  have k2 : Keeps (FrX B wr out) wr w2 := by
    rintro b ⟨q1, q2, q3⟩
    rw [hg2.block b (by simp only [World.size_alloc]; omega) q3, Below.heap_alloc _ _ _ (by omega), hb1.block b q2]
  have g2 : ∀ b, FrX B wr out b → FrX B w2 out' b := by
    rintro b ⟨q1, q2, q3⟩
    refine ⟨q1, by omega, ?_⟩
    rcases hat with e | e <;> rw [e]
    · exact q3
    · simp only [World.size_alloc, ne_eq, Option.some.injEq]; omega
  have k3 : Keeps (Fr wr.heap.size w1) w1 w2 := by
    rintro b ⟨q1, q2⟩
    rw [hg2.block b (by simp only [World.size_alloc]; omega) (fun e => by have := (hlt b e.symm).2; omega), Below.heap_alloc _ _ _ q2]
  have g3 : ∀ b, Fr wr.heap.size w1 b → FrX B w2 out' b := by
    rintro b ⟨q1, q2⟩
    refine ⟨by omega, by omega, ?_⟩
    rcases hat with e | e <;> rw [e]
    · intro e'; have := (hlt b e'.symm).2; omega
    · simp only [World.size_alloc, ne_eq, Option.some.injEq]; omega
  refine ⟨(hus.mono fun a cs h => (h.keeps k2).mono g2).append (Cells.one ⟨g, rfl, hk, (hv.keeps k3).mono g3⟩ rfl), ?_, by omega⟩
  exact ((hb.trans (hb1.mono s0)).alloc (by omega) o2).grown hg2 (by simp only [World.size_alloc]; omega) (fun g e => by have := (hlt g e).1; omega)

end Go.Proofs.YtajeghkjppkhcaaGreat
