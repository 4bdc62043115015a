/- Parts: Order. -/
import Derived.Test.YtbicoknghdgahaaGreatKA01
import Derived.Lib.Bytealg
set_option linter.unusedVariables false
set_option linter.unusedSimpArgs false
set_option exponentiation.threshold 4000
namespace Go.Proofs.YtbicoknghdgahaaGreat

def cmpI (a b : Int) : Int := if a < b then -1 else if b < a then 1 else 0
def cmpB (a b : Bool) : Int := if a = b then 0 else if a then 1 else -1
def fcmp (a b : Nat) : Int := match FloatKind.f64.format.order a b with | some .lt => -1 | some .gt => 1 | _ => 0
def feq (a b : Nat) : Bool := FloatKind.f64.format.order a b == some .eq
def cmpS (a b : ByteArray) : Int := Lib.compareBytes a.data.toList b.data.toList
def toF (n : Int) : Nat := FloatKind.f64.nearest n

def T.ord : T → Int
 | .int _ => 0
 | .flt _ => 0
 | .str _ => 1
 | .bool _ => 2
 | .list _ => 3
 | .map _ => 4
 | .null => 5

mutual
def T.cmp : T → T → Int
 | .int a, .int b => cmpI a b
 | .int a, .flt b => fcmp (toF a) b
 | .flt a, .int b => fcmp a (toF b)
 | .flt a, .flt b => fcmp a b
 | .str a, .str b => cmpS a b
 | .bool a, .bool b => cmpB a b
 | .list a, .list b => T.cmpL a b
 | .map a, .map b => T.cmpM a b
 | a, b => cmpI a.ord b.ord
def T.cmpL : List T → List T → Int
 | [], [] => 0
 | [], _ :: _ => -1
 | _ :: _, [] => 1
 | a :: as, b :: bs => if T.cmp a b = 0 then T.cmpL as bs else T.cmp a b
def T.cmpM : List (ByteArray × T) → List (ByteArray × T) → Int
 | [], [] => 0
 | [], _ :: _ => -1
 | _ :: _, [] => 1
 | (k, a) :: as, (l, b) :: bs => if cmpS k l = 0 then (if T.cmp a b = 0 then T.cmpM as bs else T.cmp a b) else cmpS k l
end

mutual
def T.eqv : T → T → Bool
 | .int a, .int b => a == b
 | .int a, .flt b => feq (toF a) b
 | .flt a, .int b => feq a (toF b)
 | .flt a, .flt b => feq a b
 | .str a, .str b => decide (a = b)
 | .bool a, .bool b => a == b
 | .list a, .list b => T.eqvL a b
 | .map a, .map b => T.eqvM a b
 | .null, .null => true
 | _, _ => false
def T.eqvL : List T → List T → Bool
 | [], [] => true
 | a :: as, b :: bs => T.eqv a b && T.eqvL as bs
 | _, _ => false
def T.eqvM : List (ByteArray × T) → List (ByteArray × T) → Bool
 | [], [] => true
 | (k, a) :: as, (l, b) :: bs => decide (k = l) && (T.eqv a b && T.eqvM as bs)
 | _, _ => false
end

theorem cmp_lt {a b : T} (h : a.ord < b.ord) : T.cmp a b = -1 := by
 cases a <;> cases b <;> simp [T.ord] at h <;> simp [T.cmp, T.ord, cmpI]
theorem cmp_gt {a b : T} (h : b.ord < a.ord) : T.cmp a b = 1 := by
 cases a <;> cases b <;> simp [T.ord] at h <;> simp [T.cmp, T.ord, cmpI]
end Go.Proofs.YtbicoknghdgahaaGreat

namespace Go.Proofs.YtbicoknghdgahaaGreat

def fvalD : Ieee.Datum → Option Int
 | .number s m e => some (Ieee.signed s m (e + 1074).toNat)
 | .infinity s => some (if s then -(2 ^ 3000) else 2 ^ 3000)
 | .nan _ _ => none
def fval (x : Nat) : Option Int := fvalD (Ieee.double.read x)

def Dread : Ieee.Datum → Prop
 | .number _ m e => m < 2 ^ 53 ∧ -1074 ≤ e ∧ e ≤ 971
 | _ => True

theorem dread (x : Nat) : Dread (Ieee.double.read x) := by
 unfold Ieee.Format.read
 have h1 : Ieee.double.binade = 4503599627370496 := by rfl
 have h2 : Ieee.double.infRung = 9218868437227405312 := by rfl
 have h3 : Ieee.double.leastPlace = -1074 := by rfl
 simp only [h1, h2, h3]
 generalize x % Ieee.double.signWeight = r
 split
 ·exact ⟨by omega, by omega, by omega⟩
 ·split
  ·refine ⟨?_, ?_, ?_⟩ <;> omega
  ·split
   ·trivial
   ·trivial

theorem shl_int (m k : Nat) : ((m <<< k : Nat) : Int) = (m : Int) * 2 ^ k := by
 rw [Nat.shiftLeft_eq]
 push_cast
 rfl
theorem signed_eq (s : Bool) (m k : Nat) : Ieee.signed s m k = (if s then -(m : Int) else (m : Int)) * 2 ^ k := by
 unfold Ieee.signed
 rw [shl_int]
 cases s <;> simp [Int.neg_mul]

theorem cmp_mul (a b : Int) (c : Int) (hc : 0 < c) : compare (a * c) (b * c) = compare a b := by
 rcases Int.lt_trichotomy a b with h | h | h
 ·have h' : a * c < b * c := Int.mul_lt_mul_of_pos_right h hc
  rw [Int.compare_eq_lt.2 h, Int.compare_eq_lt.2 h']
 ·subst h
  rw [Int.compare_eq_eq.2 rfl, Int.compare_eq_eq.2 rfl]
 ·have h' : b * c < a * c := Int.mul_lt_mul_of_pos_right h hc
  rw [Int.compare_eq_gt.2 h, Int.compare_eq_gt.2 h']

theorem signed_small {s : Bool} {m : Nat} {e : Int} (hm : m < 2 ^ 53) (h1 : -1074 ≤ e) (h2 : e ≤ 971) : -(2 ^ 3000 : Int) < Ieee.signed s m (e + 1074).toNat ∧ Ieee.signed s m (e + 1074).toNat < 2 ^ 3000 := by
 rw [signed_eq]
 have hk : (e + 1074).toNat ≤ 2045 := by omega
 generalize (e + 1074).toNat = k at hk
 have hp : (2 : Nat) ^ k ≤ 2 ^ 2045 := Nat.pow_le_pow_right (by omega) hk
 have hlt : m * 2 ^ k < 2 ^ 3000 := by
  calc m * 2 ^ k ≤ m * 2 ^ 2045 := Nat.mul_le_mul_left _ hp
   _ < 2 ^ 53 * 2 ^ 2045 := Nat.mul_lt_mul_of_pos_right hm (Nat.two_pow_pos _)
   _ = 2 ^ 2098 := by rw [← Nat.pow_add]
   _ ≤ 2 ^ 3000 := Nat.pow_le_pow_right (by omega) (by omega)
 have hlt' : ((m : Int) * 2 ^ k) < 2 ^ 3000 := by exact_mod_cast hlt
 have h0 : (0 : Int) ≤ (m : Int) * 2 ^ k := by exact_mod_cast Nat.zero_le (m * 2 ^ k)
 generalize (2 ^ 3000 : Int) = B at *
 cases s
 ·simp only [Bool.false_eq_true, if_false]
  omega
 ·simp only [if_true, Int.neg_mul]
  omega

theorem orderD {a b : Ieee.Datum} (ha : Dread a) (hb : Dread b) : a.order b = match fvalD a, fvalD b with | some x, some y => some (compare x y) | _, _ => none := by
 cases a with
 | nan s t => simp [Ieee.Datum.order, fvalD]
 | infinity s =>
  cases b with
  | nan t u => simp [Ieee.Datum.order, fvalD]
  | infinity t =>
   have hB : (0 : Int) < 2 ^ 3000 := Int.pow_pos (by omega)
   simp only [Ieee.Datum.order, fvalD]
   generalize (2 ^ 3000 : Int) = B at hB
   cases s <;> cases t <;> simp only [Bool.false_eq_true, if_false, if_true, Bool.toNat_false, Bool.toNat_true]
   ·rw [Int.compare_eq_eq.2 rfl]; rfl
   ·rw [Int.compare_eq_gt.2 (by omega)]; rfl
   ·rw [Int.compare_eq_lt.2 (by omega)]; rfl
   ·rw [Int.compare_eq_eq.2 rfl]; rfl
  | number t n j =>
   obtain ⟨h1, h2, h3⟩ := hb
   obtain ⟨q1, q2⟩ := signed_small (s := t) h1 h2 h3
   simp only [Ieee.Datum.order, fvalD]
   generalize Ieee.signed t n (j + 1074).toNat = v at *
   have hB : (0 : Int) < 2 ^ 3000 := Int.pow_pos (by omega)
   generalize (2 ^ 3000 : Int) = B at *
   cases s
   ·simp only [Bool.false_eq_true, if_false]
    rw [Int.compare_eq_gt.2 (by omega)]
   ·simp only [if_true]
    rw [Int.compare_eq_lt.2 (by omega)]
 | number s m i =>
  cases b with
  | nan t u => simp [Ieee.Datum.order, fvalD]
  | infinity t =>
   obtain ⟨h1, h2, h3⟩ := ha
   obtain ⟨q1, q2⟩ := signed_small (s := s) h1 h2 h3
   simp only [Ieee.Datum.order, fvalD]
   generalize Ieee.signed s m (i + 1074).toNat = v at *
   have hB : (0 : Int) < 2 ^ 3000 := Int.pow_pos (by omega)
   generalize (2 ^ 3000 : Int) = B at *
   cases t
   ·simp only [Bool.false_eq_true, if_false]
    rw [Int.compare_eq_lt.2 (by omega)]
   ·simp only [if_true]
    rw [Int.compare_eq_gt.2 (by omega)]
  | number t n j =>
   obtain ⟨h1, h2, h3⟩ := ha
   obtain ⟨h4, h5, h6⟩ := hb
   simp only [Ieee.Datum.order, fvalD, signed_eq]
   congr 1
   generalize (if s = true then -(m : Int) else (m : Int)) = x
   generalize (if t = true then -(n : Int) else (n : Int)) = y
   have e1 : (i + 1074).toNat = (i - min i j).toNat + (min i j + 1074).toNat := by omega
   have e2 : (j + 1074).toNat = (j - min i j).toNat + (min i j + 1074).toNat := by omega
   rw [e1, e2, Int.pow_add, Int.pow_add, ← Int.mul_assoc, ← Int.mul_assoc, cmp_mul]
   exact Int.pow_pos (by omega)

theorem forder (x y : Nat) : FloatKind.f64.format.order x y = match fval x, fval y with | some a, some b => some (compare a b) | _, _ => none := orderD (dread x) (dread y)

theorem fcmp_val {x y : Nat} {a b : Int} (hx : fval x = some a) (hy : fval y = some b) : fcmp x y = cmpI a b := by
 unfold fcmp cmpI
 rw [forder, hx, hy]
 rcases Int.lt_trichotomy a b with h | h | h
 ·simp [Int.compare_eq_lt.2 h, h]
 ·subst h
  simp [Int.compare_eq_eq.2 rfl]
 ·have : ¬ a < b := by omega
  simp [Int.compare_eq_gt.2 h, h, this]
theorem feq_val {x y : Nat} {a b : Int} (hx : fval x = some a) (hy : fval y = some b) : feq x y = decide (a = b) := by
 unfold feq
 rw [forder, hx, hy]
 rcases Int.lt_trichotomy a b with h | h | h
 ·have : ¬ a = b := by omega
  simp [Int.compare_eq_lt.2 h, this]
 ·subst h
  simp [Int.compare_eq_eq.2 rfl]
 ·have : ¬ a = b := by omega
  simp [Int.compare_eq_gt.2 h, this]
theorem fval_of {x : Nat} {s : Bool} {m : Nat} {e : Int} {k : Nat} (h : Ieee.double.read x = .number s m e) (hk : (e + 1074).toNat = k) : fval x = some ((if s then -(m : Int) else (m : Int)) * 2 ^ k) := by
 unfold fval
 rw [h]
 unfold fvalD
 simp only
 rw [hk, signed_eq]

set_option maxRecDepth 100000 in
theorem toF_val (n : Int) (h1 : -9007199254740992 ≤ n) (h2 : n ≤ 9007199254740992) : fval (toF n) = some (n * 2 ^ 1074) := by
 by_cases h0 : n = 0
 ·subst h0
  have : toF 0 = 0 := by decide
  rw [this]
  have : Ieee.double.read 0 = .number false 0 (-1074) := by decide
  unfold fval
  rw [this, Int.zero_mul]
  rfl
 by_cases hb : n.natAbs = 9007199254740992
 ·have : n = 9007199254740992 ∨ n = -9007199254740992 := by omega
  rcases this with rfl | rfl
  ·have : toF 9007199254740992 = 4845873199050653696 := by decide
   rw [this]
   have : Ieee.double.read 4845873199050653696 = .number false 4503599627370496 1 := by decide
   rw [fval_of this (k := 1075) (by decide)]
   simp only [Bool.false_eq_true, if_false]
   congr 1
  ·have : toF (-9007199254740992) = 14069245235905429504 := by decide
   rw [this]
   have : Ieee.double.read 14069245235905429504 = .number true 4503599627370496 1 := by decide
   rw [fval_of this (k := 1075) (by decide)]
   simp only [if_true]
   congr 1
 ·have hm0 : n.natAbs ≠ 0 := by omega
  have hm : n.natAbs < 2 ^ 53 := by omega
  have hl : n.natAbs.log2 < 53 := (Nat.log2_lt hm0).2 hm
  have hlo : 2 ^ n.natAbs.log2 ≤ n.natAbs := Nat.log2_self_le hm0
  have hhi : n.natAbs < 2 ^ (n.natAbs.log2 + 1) := Nat.lt_log2_self
  have hn : n = if decide (n < 0) = true then -(n.natAbs : Int) else (n.natAbs : Int) := by
   by_cases h : n < 0 <;> simp [h] <;> omega
  have e : toF n = Ieee.double.nearest (decide (n < 0)) n.natAbs 0 := rfl
  rw [e]
  generalize decide (n < 0) = neg at hn ⊢
  generalize n.natAbs = m at *
  subst hn
  clear e h1 h2 h0 hb
  obtain ⟨l, hl2⟩ : ∃ l, m.log2 = l := ⟨_, rfl⟩
  rw [hl2] at hl hlo hhi
  have hsplit : (2 : Nat) ^ 52 = 2 ^ l * 2 ^ (52 - l) := by rw [← Nat.pow_add]; congr 1; omega
  have hlo' : 4503599627370496 ≤ m * 2 ^ (52 - l) := by
   calc 4503599627370496 = 2 ^ l * 2 ^ (52 - l) := hsplit
    _ ≤ _ := Nat.mul_le_mul_right _ hlo
  have hhi' : m * 2 ^ (52 - l) < 9007199254740992 := by
   calc m * 2 ^ (52 - l) < 2 ^ (l + 1) * 2 ^ (52 - l) := Nat.mul_lt_mul_of_pos_right hhi (Nat.two_pow_pos _)
    _ = 2 * (2 ^ l * 2 ^ (52 - l)) := by rw [Nat.pow_succ, Nat.mul_comm (2 ^ l) 2, Nat.mul_assoc]
    _ = 9007199254740992 := by rw [← hsplit]
  have hr : Ieee.double.nearest neg m 0 = Ieee.double.word neg ((l + 1022) * 4503599627370496 + m * 2 ^ (52 - l)) := by
   unfold Ieee.Format.nearest
   have q1 : Ieee.double.binade = 4503599627370496 := by rfl
   have q2 : Ieee.double.infRung = 9218868437227405312 := by rfl
   have q3 : Ieee.double.leastPlace = -1074 := by rfl
   have q4 : (Ieee.double.fractionBits : Int) = 52 := by rfl
   rw [if_neg hm0]
   simp only [q1, q2, q3, q4, hl2]
   have g1 : max (0 + (l : Int) - 52) (-1074) = (l : Int) - 52 := by omega
   have g2 : ((0 : Int) - ((l : Int) - 52)).toNat = 52 - l := by omega
   have g3 : ((l : Int) - 52 - 0).toNat = 0 := by omega
   have g4 : ((l : Int) - 52 - -1074).toNat = l + 1022 := by omega
   rw [g1, g2, g3, g4, Nat.shiftLeft_eq]
   have gc : ∀ n : Nat, Ieee.Toward.even.cut neg n 0 = n := by
    intro n
    unfold Ieee.Toward.cut
    simp [Nat.mod_one]
   rw [gc, Nat.min_eq_left (by omega)]
  rw [hr]
  have hread : Ieee.double.read (Ieee.double.word neg ((l + 1022) * 4503599627370496 + m * 2 ^ (52 - l))) = .number neg (m * 2 ^ (52 - l)) ((l : Int) - 52) := by
   clear hr hsplit hlo hhi hm hm0 hl2
   generalize m * 2 ^ (52 - l) = k at *
   unfold Ieee.Format.read Ieee.Format.word
   have q1 : Ieee.double.binade = 4503599627370496 := by rfl
   have q2 : Ieee.double.infRung = 9218868437227405312 := by rfl
   have q3 : Ieee.double.leastPlace = -1074 := by rfl
   have q5 : Ieee.double.signWeight = 9223372036854775808 := by rfl
   simp only [q1, q2, q3, q5]
   have r1 : ((l + 1022) * 4503599627370496 + k) / 9223372036854775808 = 0 := by omega
   have r2 : ((l + 1022) * 4503599627370496 + k) % 9223372036854775808 = (l + 1022) * 4503599627370496 + k := by omega
   have r3 : (9223372036854775808 + ((l + 1022) * 4503599627370496 + k)) / 9223372036854775808 = 1 := by omega
   have r4 : (9223372036854775808 + ((l + 1022) * 4503599627370496 + k)) % 9223372036854775808 = (l + 1022) * 4503599627370496 + k := by omega
   have r5 : ((l + 1022) * 4503599627370496 + k) / 4503599627370496 = l + 1023 := by omega
   have r6 : 4503599627370496 + ((l + 1022) * 4503599627370496 + k) % 4503599627370496 = k := by omega
   cases neg
   ·simp only [Bool.false_eq_true, if_false, r1, r2, r5, r6]
    rw [if_neg (by omega), if_pos (by omega)]
    have : (-1074 : Int) + ((l + 1023 - 1 : Nat) : Int) = (l : Int) - 52 := by omega
    rw [this]
    rfl
   ·simp only [if_true, r3, r4, r5, r6]
    rw [if_neg (by omega), if_pos (by omega)]
    have : (-1074 : Int) + ((l + 1023 - 1 : Nat) : Int) = (l : Int) - 52 := by omega
    rw [this]
    rfl
  have hk : ((l : Int) - 52 + 1074).toNat = l + 1022 := by clear hr hread hsplit hlo hhi hlo' hhi'; omega
  rw [fval_of hread hk]
  have e2 : ((m * 2 ^ (52 - l) : Nat) : Int) = (m : Int) * 2 ^ (52 - l) := by push_cast; rfl
  have e3 : (2 : Int) ^ 1074 = 2 ^ (52 - l) * 2 ^ (l + 1022) := by rw [← Int.pow_add]; congr 1; omega
  rw [e2, e3]
  congr 1
  cases neg
  ·simp only [Bool.false_eq_true, if_false]
   rw [Int.mul_assoc]
  ·simp only [if_true]
   rw [Int.neg_mul, Int.neg_mul, Int.mul_assoc]
end Go.Proofs.YtbicoknghdgahaaGreat

namespace Go.Proofs.YtbicoknghdgahaaGreat

theorem cmpB_eq (a : List UInt8) : ∀ b : List UInt8, Lib.compareBytes a b = if a < b then -1 else if a = b then 0 else 1 := by
 induction a with
 | nil => intro b; cases b <;> simp [Lib.compareBytes]
 | cons x a ih =>
  intro b
  cases b with
  | nil => simp [Lib.compareBytes]
  | cons y b =>
   rw [Lib.compareBytes, ih b]
   simp only [List.cons_lt_cons_iff, List.cons.injEq]
   by_cases h1 : x < y
   ·simp [h1]
   ·by_cases h2 : y < x
    ·have h3 : x ≠ y := by rintro rfl; exact u8lt_irrefl _ h2
     simp [h1, h2, h3]
    ·have h3 : x = y := UInt8.le_antisymm (UInt8.not_lt.1 h2) (UInt8.not_lt.1 h1)
     subst h3
     simp
theorem cmpS_eq (a b : ByteArray) : cmpS a b = if klt a b = true then -1 else if a = b then 0 else 1 := by
 unfold cmpS
 rw [cmpB_eq]
 have e1 : (a.data.toList < b.data.toList) ↔ klt a b = true := (klt_iff a b).symm
 have e2 : (a.data.toList = b.data.toList) ↔ a = b := ⟨fun h => bytes_ext h, fun h => by rw [h]⟩
 simp only [e1, e2]
theorem cmpS_zero {a b : ByteArray} : cmpS a b = 0 ↔ a = b := by
 rw [cmpS_eq]
 by_cases h : klt a b = true
 ·simp [h, klt_ne h]
 ·by_cases h2 : a = b
  ·subst h2; simp [klt_irrefl]
  ·simp [h, h2]
theorem cmpS_neg {a b : ByteArray} : cmpS a b < 0 ↔ klt a b = true := by
 rw [cmpS_eq]
 by_cases h : klt a b = true
 ·simp [h]
 ·by_cases h2 : a = b
  ·subst h2; simp [klt_irrefl]
  ·simp [h, h2]
theorem cmpS_turn (a b : ByteArray) : cmpS b a = - cmpS a b := by
 rcases klt_total a b with h | h | h
 ·subst h; rw [cmpS_zero.2 rfl]; rfl
 ·rw [cmpS_eq a b, cmpS_eq b a]; simp [h, klt_asymm h, (klt_ne h).symm]
 ·rw [cmpS_eq a b, cmpS_eq b a]; simp [h, klt_asymm h, (klt_ne h).symm]
theorem cmpI_zero {a b : Int} : cmpI a b = 0 ↔ a = b := by unfold cmpI; split <;> (try split) <;> constructor <;> intro h <;> omega
theorem cmpI_turn (a b : Int) : cmpI b a = - cmpI a b := by unfold cmpI; split <;> (try split) <;> (try split) <;> omega

inductive T.Ok : T → Prop
 | null : Ok .null
 | bool (b : Bool) : Ok (.bool b)
 | int {n : Int} : -9007199254740992 ≤ n → n ≤ 9007199254740992 → Ok (.int n)
 | flt {f : Nat} {a : Int} : fval f = some a → Ok (.flt f)
 | str (s : ByteArray) : Ok (.str s)
 | list {l : List T} : (∀ t ∈ l, Ok t) → Ok (.list l)
 | map {l : List (ByteArray × T)} : (∀ k t, (k, t) ∈ l → Ok t) → Ok (.map l)
theorem T.Ok.items {l : List T} (h : T.Ok (.list l)) : ∀ t ∈ l, T.Ok t := by cases h; assumption
theorem T.Ok.fields {l : List (ByteArray × T)} (h : T.Ok (.map l)) : ∀ k t, (k, t) ∈ l → T.Ok t := by cases h; assumption

def T.num : T → Int
 | .int n => n * 2 ^ 1074
 | .flt f => (fval f).getD 0
 | _ => 0
def T.isNum : T → Bool
 | .int _ => true
 | .flt _ => true
 | _ => false

theorem cmpI_mul (a b c : Int) (hc : 0 < c) : cmpI (a * c) (b * c) = cmpI a b := by
 unfold cmpI
 have h1 : a * c < b * c ↔ a < b := Int.mul_lt_mul_right hc
 have h2 : b * c < a * c ↔ b < a := Int.mul_lt_mul_right hc
 simp only [h1, h2]
theorem pow1074 : (0 : Int) < 2 ^ 1074 := Int.pow_pos (by omega)
theorem num_int (n : Int) : (T.int n).num = n * 2 ^ 1074 := by simp only [T.num]
theorem num_flt {f : Nat} {a : Int} (h : fval f = some a) : (T.flt f).num = a := by show (fval f).getD 0 = a; rw [h]; rfl
theorem num_cmp {a b : T} (ha : a.Ok) (hb : b.Ok) (na : a.isNum = true) (nb : b.isNum = true) : T.cmp a b = cmpI a.num b.num ∧ T.eqv a b = decide (a.num = b.num) := by
 have hp := pow1074
 cases ha with
 | @int x h1 h2 =>
  have e := toF_val _ h1 h2
  cases hb with
  | @int y h3 h4 =>
   rw [num_int, num_int, cmpI_mul _ _ _ hp, T.cmp, T.eqv]
   have : (x * 2 ^ 1074 = y * 2 ^ 1074) ↔ x = y := Int.mul_eq_mul_right_iff (Int.ne_of_gt hp)
   rw [decide_eq_decide.2 this]
   exact ⟨rfl, rfl⟩
  | flt h =>
   rw [num_int, num_flt h, T.cmp, T.eqv, fcmp_val e h, feq_val e h]
   exact ⟨rfl, rfl⟩
  | _ => cases nb
 | flt h =>
  cases hb with
  | int h3 h4 =>
   have e := toF_val _ h3 h4
   rw [num_int, num_flt h, T.cmp, T.eqv, fcmp_val h e, feq_val h e]
   exact ⟨rfl, rfl⟩
  | flt h' =>
   rw [num_flt h, num_flt h', T.cmp, T.eqv, fcmp_val h h', feq_val h h']
   exact ⟨rfl, rfl⟩
  | _ => cases nb
 | _ => cases na

def Tr (x y z : Int) : Prop := (x = 0 → y = 0 → z = 0) ∧ (x ≤ 0 → y ≤ 0 → (x < 0 ∨ y < 0) → z < 0)
theorem Tr.of_cmpI (a b c : Int) : Tr (cmpI a b) (cmpI b c) (cmpI a c) := by
 unfold Tr cmpI
 constructor
 ·repeat' split
  all_goals omega
 ·repeat' split
  all_goals omega
theorem Tr.of_cmpS (a b c : ByteArray) : Tr (cmpS a b) (cmpS b c) (cmpS a c) := by
 constructor
 ·intro h1 h2
  rw [cmpS_zero] at h1 h2 ⊢
  rw [h1, h2]
 ·intro h1 h2 h3
  have g : ∀ x y, cmpS x y ≤ 0 → x = y ∨ klt x y = true := by
   intro x y h
   rcases Int.lt_or_eq_of_le h with h | h
   ·exact .inr (cmpS_neg.1 h)
   ·exact .inl (cmpS_zero.1 h)
  rw [cmpS_neg]
  rcases g _ _ h1 with e1 | e1 <;> rcases g _ _ h2 with e2 | e2
  ·subst e1; subst e2
   rw [cmpS_zero.2 rfl] at h3
   omega
  ·subst e1; exact e2
  ·subst e2; exact e1
  ·exact klt_trans e1 e2
theorem Tr.lex {x y z x' y' z' : Int} (h : Tr x y z) (e : x = 0 → y = 0 → Tr x' y' z') : Tr (if x = 0 then x' else x) (if y = 0 then y' else y) (if z = 0 then z' else z) := by
 by_cases hx : x = 0
 ·by_cases hy : y = 0
  ·rw [if_pos hx, if_pos hy, if_pos (h.1 hx hy)]
   exact e hx hy
  ·rw [if_pos hx, if_neg hy]
   refine ⟨fun _ b => absurd b hy, fun _ b _ => ?_⟩
   have hz := h.2 (by omega) b (.inr (by omega))
   rw [if_neg (by omega)]
   exact hz
 ·rw [if_neg hx]
  refine ⟨fun a => absurd a hx, fun a b _ => ?_⟩
  have hy : y ≤ 0 := by
   by_cases hy : y = 0
   ·omega
   ·rw [if_neg hy] at b
    exact b
  have hz := h.2 a hy (.inl (by omega))
  rw [if_neg (by omega)]
  exact hz
mutual
theorem cmp_self : ∀ {a : T}, a.Ok → T.cmp a a = 0
 | .null, _ => by simp [T.cmp, T.ord, cmpI]
 | .bool b, _ => by simp [T.cmp, cmpB]
 | .int n, _ => by simp [T.cmp, cmpI]
 | .flt f, h => by rw [(num_cmp h h rfl rfl).1]; exact cmpI_zero.2 rfl
 | .str s, _ => by rw [T.cmp]; exact cmpS_zero.2 rfl
 | .list l, h => by rw [T.cmp]; exact cmpL_self l h.items
 | .map l, h => by rw [T.cmp]; exact cmpM_self l h.fields
theorem cmpL_self : ∀ l : List T, (∀ t ∈ l, T.Ok t) → T.cmpL l l = 0
 | [], _ => by rw [T.cmpL]
 | a :: l, h => by rw [T.cmpL, cmp_self (h a (by simp)), if_pos rfl]; exact cmpL_self l fun t ht => h t (by simp [ht])
theorem cmpM_self : ∀ l : List (ByteArray × T), (∀ k t, (k, t) ∈ l → T.Ok t) → T.cmpM l l = 0
 | [], _ => by rw [T.cmpM]
 | (k, a) :: l, h => by rw [T.cmpM, cmpS_zero.2 rfl, if_pos rfl, cmp_self (h k a (by simp)), if_pos rfl]; exact cmpM_self l fun k t ht => h k t (by simp [ht])
end

theorem ord_num {a : T} : a.ord = 0 ↔ a.isNum = true := by cases a <;> simp [T.ord, T.isNum]

theorem cmp_kinds {a b : T} (h : a.ord ≠ b.ord) : T.cmp a b = cmpI a.ord b.ord := by
 rcases Int.lt_or_gt_of_ne h with h1 | h1
 ·rw [cmp_lt h1]; unfold cmpI; rw [if_pos h1]
 ·rw [cmp_gt h1]; unfold cmpI; rw [if_neg (by omega), if_pos h1]

mutual
theorem cmp_turn : ∀ (a b : T), a.Ok → b.Ok → T.cmp b a = - T.cmp a b
 | .null, b, _, hb => by cases b <;> simp [T.cmp, T.ord, cmpI]
 | .bool x, b, _, hb => by cases b <;> simp [T.cmp, T.ord, cmpI]; rename_i y; cases x <;> cases y <;> simp [cmpB]
 | .int n, b, ha, hb => by
  by_cases h : b.isNum = true
  ·rw [(num_cmp ha hb rfl h).1, (num_cmp hb ha h rfl).1, cmpI_turn]
  ·cases b <;> simp [T.isNum] at h <;> simp [T.cmp, T.ord, cmpI]
 | .flt f, b, ha, hb => by
  by_cases h : b.isNum = true
  ·rw [(num_cmp ha hb rfl h).1, (num_cmp hb ha h rfl).1, cmpI_turn]
  ·cases b <;> simp [T.isNum] at h <;> simp [T.cmp, T.ord, cmpI]
 | .str s, b, _, hb => by cases b <;> simp [T.cmp, T.ord, cmpI]; exact cmpS_turn _ _
 | .list l, b, ha, hb => by
  cases b with
  | list m => rw [T.cmp, T.cmp]; exact cmpL_turn l m ha.items hb.items
  | _ => simp [T.cmp, T.ord, cmpI]
 | .map l, b, ha, hb => by
  cases b with
  | map m => rw [T.cmp, T.cmp]; exact cmpM_turn l m ha.fields hb.fields
  | _ => simp [T.cmp, T.ord, cmpI]
theorem cmpL_turn : ∀ (l m : List T), (∀ t ∈ l, T.Ok t) → (∀ t ∈ m, T.Ok t) → T.cmpL m l = - T.cmpL l m
 | [], [], _, _ => by simp [T.cmpL]
 | [], _ :: _, _, _ => by simp [T.cmpL]
 | _ :: _, [], _, _ => by simp [T.cmpL]
 | a :: l, b :: m, h1, h2 => by
  have e := cmp_turn a b (h1 a (by simp)) (h2 b (by simp))
  have e2 := cmpL_turn l m (fun t ht => h1 t (by simp [ht])) (fun t ht => h2 t (by simp [ht]))
  rw [T.cmpL, T.cmpL, e, e2]
  by_cases h : T.cmp a b = 0
  ·rw [if_pos (by omega), if_pos h]
  ·rw [if_neg (by omega), if_neg h]
theorem cmpM_turn : ∀ (l m : List (ByteArray × T)), (∀ k t, (k, t) ∈ l → T.Ok t) → (∀ k t, (k, t) ∈ m → T.Ok t) → T.cmpM m l = - T.cmpM l m
 | [], [], _, _ => by simp [T.cmpM]
 | [], _ :: _, _, _ => by simp [T.cmpM]
 | _ :: _, [], _, _ => by simp [T.cmpM]
 | (k, a) :: l, (j, b) :: m, h1, h2 => by
  have e := cmp_turn a b (h1 k a (by simp)) (h2 j b (by simp))
  have e2 := cmpM_turn l m (fun k t ht => h1 k t (by simp [ht])) (fun k t ht => h2 k t (by simp [ht]))
  have e3 := cmpS_turn k j
  rw [T.cmpM, T.cmpM, e, e2, e3]
  by_cases h : cmpS k j = 0
  ·rw [if_pos (by omega), if_pos h]
   by_cases h : T.cmp a b = 0
   ·rw [if_pos (by omega), if_pos h]
   ·rw [if_neg (by omega), if_neg h]
  ·rw [if_neg (by omega), if_neg h]
end

theorem tr_kinds (a b c : T) (ha : a.Ok) (hb : b.Ok) (hc : c.Ok) (hl : ∀ x y z, a = .list x → b = .list y → c = .list z → Tr (T.cmpL x y) (T.cmpL y z) (T.cmpL x z))
  (hm : ∀ x y z, a = .map x → b = .map y → c = .map z → Tr (T.cmpM x y) (T.cmpM y z) (T.cmpM x z)) : Tr (T.cmp a b) (T.cmp b c) (T.cmp a c) := by
  by_cases e1 : a.ord = b.ord
  ·by_cases e2 : b.ord = c.ord
   ·by_cases e3 : a.ord = 0
    ·have na := ord_num.1 e3
     have nb := ord_num.1 (e1 ▸ e3)
     have nc := ord_num.1 (e2 ▸ e1 ▸ e3)
     rw [(num_cmp ha hb na nb).1, (num_cmp hb hc nb nc).1, (num_cmp ha hc na nc).1]
     exact Tr.of_cmpI _ _ _
    ·cases a with
     | null => cases b <;> simp [T.ord] at e1; cases c <;> simp [T.ord] at e2; simp [T.cmp, T.ord, cmpI, Tr]
     | bool x =>
      cases b <;> simp [T.ord] at e1
      cases c <;> simp [T.ord] at e2
      simp only [T.cmp]
      rename_i y z
      cases x <;> cases y <;> cases z <;> simp [cmpB, Tr]
     | str x =>
      cases b <;> simp [T.ord] at e1
      cases c <;> simp [T.ord] at e2
      simp only [T.cmp]
      exact Tr.of_cmpS _ _ _
     | list x =>
      cases b <;> simp [T.ord] at e1
      cases c <;> simp [T.ord] at e2
      simp only [T.cmp]
      exact hl _ _ _ rfl rfl rfl
     | map x =>
      cases b <;> simp [T.ord] at e1
      cases c <;> simp [T.ord] at e2
      simp only [T.cmp]
      exact hm _ _ _ rfl rfl rfl
     | int x => exact absurd rfl e3
     | flt x => exact absurd rfl e3
   ·have h1 : T.cmp a c = cmpI a.ord c.ord := cmp_kinds (by rw [e1]; exact e2)
    have h2 : T.cmp b c = cmpI b.ord c.ord := cmp_kinds e2
    rw [h1, h2, e1]
    unfold Tr cmpI
    constructor
    ·intro _ h; exact h
    ·intro _ h _
     split at h
     ·rename_i g; rw [if_pos g]; omega
     ·split at h <;> omega
  ·have h1 : T.cmp a b = cmpI a.ord b.ord := cmp_kinds e1
   by_cases e2 : b.ord = c.ord
   ·have h2 : T.cmp a c = cmpI a.ord c.ord := cmp_kinds (by rw [← e2]; exact e1)
    rw [h1, h2, e2]
    unfold Tr cmpI
    constructor
    ·intro h _; exact h
    ·intro h _ _
     split at h
     ·rename_i g; rw [if_pos g]; omega
     ·split at h <;> omega
   ·have h2 : T.cmp b c = cmpI b.ord c.ord := cmp_kinds e2
    by_cases e3 : a.ord = c.ord
    ·rw [h1, h2, e3]
     unfold Tr cmpI
     constructor
     ·intro h; exfalso; revert h; repeat' split
      all_goals omega
     ·intro h g; exfalso; revert h g; repeat' split
      all_goals omega
    ·rw [h1, h2, cmp_kinds e3]
     exact Tr.of_cmpI _ _ _
mutual
theorem cmp_tr : ∀ (a b c : T), a.Ok → b.Ok → c.Ok → Tr (T.cmp a b) (T.cmp b c) (T.cmp a c)
 | .null, b, c, ha, hb, hc => tr_kinds _ _ _ ha hb hc (fun _ _ _ h => by cases h) (fun _ _ _ h => by cases h)
 | .bool _, b, c, ha, hb, hc => tr_kinds _ _ _ ha hb hc (fun _ _ _ h => by cases h) (fun _ _ _ h => by cases h)
 | .int _, b, c, ha, hb, hc => tr_kinds _ _ _ ha hb hc (fun _ _ _ h => by cases h) (fun _ _ _ h => by cases h)
 | .flt _, b, c, ha, hb, hc => tr_kinds _ _ _ ha hb hc (fun _ _ _ h => by cases h) (fun _ _ _ h => by cases h)
 | .str _, b, c, ha, hb, hc => tr_kinds _ _ _ ha hb hc (fun _ _ _ h => by cases h) (fun _ _ _ h => by cases h)
 | .list x, b, c, ha, hb, hc => tr_kinds _ _ _ ha hb hc (fun _ y z h h2 h3 => by cases h; subst h2; subst h3; exact cmpL_tr x y z ha.items hb.items hc.items) (fun _ _ _ h => by cases h)
 | .map x, b, c, ha, hb, hc => tr_kinds _ _ _ ha hb hc (fun _ _ _ h => by cases h) (fun _ y z h h2 h3 => by cases h; subst h2; subst h3; exact cmpM_tr x y z ha.fields hb.fields hc.fields)
theorem cmpL_tr : ∀ (x y z : List T), (∀ t ∈ x, T.Ok t) → (∀ t ∈ y, T.Ok t) → (∀ t ∈ z, T.Ok t) → Tr (T.cmpL x y) (T.cmpL y z) (T.cmpL x z)
 | [], [], [], _, _, _ => by simp [T.cmpL, Tr]
 | [], [], _ :: _, _, _, _ => by simp [T.cmpL, Tr]
 | [], _ :: _, [], _, _, _ => by simp [T.cmpL, Tr]
 | [], _ :: _, _ :: _, _, _, _ => by simp [T.cmpL, Tr]
 | _ :: _, [], [], _, _, _ => by simp [T.cmpL, Tr]
 | _ :: _, [], _ :: _, _, _, _ => by simp [T.cmpL, Tr]
 | _ :: _, _ :: _, [], _, _, _ => by simp [T.cmpL, Tr]
 | a :: x, b :: y, c :: z, h1, h2, h3 => by
  rw [T.cmpL, T.cmpL, T.cmpL]
  have e := cmpL_tr x y z (fun t ht => h1 t (by simp [ht])) (fun t ht => h2 t (by simp [ht])) (fun t ht => h3 t (by simp [ht]))
  exact Tr.lex (cmp_tr a b c (h1 a (by simp)) (h2 b (by simp)) (h3 c (by simp))) fun _ _ => e
theorem cmpM_tr : ∀ (x y z : List (ByteArray × T)), (∀ k t, (k, t) ∈ x → T.Ok t) → (∀ k t, (k, t) ∈ y → T.Ok t) → (∀ k t, (k, t) ∈ z → T.Ok t) → Tr (T.cmpM x y) (T.cmpM y z) (T.cmpM x z)
 | [], [], [], _, _, _ => by simp [T.cmpM, Tr]
 | [], [], _ :: _, _, _, _ => by simp [T.cmpM, Tr]
 | [], _ :: _, [], _, _, _ => by simp [T.cmpM, Tr]
 | [], _ :: _, _ :: _, _, _, _ => by simp [T.cmpM, Tr]
 | _ :: _, [], [], _, _, _ => by simp [T.cmpM, Tr]
 | _ :: _, [], _ :: _, _, _, _ => by simp [T.cmpM, Tr]
 | _ :: _, _ :: _, [], _, _, _ => by simp [T.cmpM, Tr]
 | (k, a) :: x, (j, b) :: y, (i, c) :: z, h1, h2, h3 => by
  rw [T.cmpM, T.cmpM, T.cmpM]
  have e := cmpM_tr x y z (fun k t ht => h1 k t (by simp [ht])) (fun k t ht => h2 k t (by simp [ht])) (fun k t ht => h3 k t (by simp [ht]))
  have e2 := Tr.lex (cmp_tr a b c (h1 k a (by simp)) (h2 j b (by simp)) (h3 i c (by simp))) fun _ _ => e
  exact Tr.lex (Tr.of_cmpS _ _ _) fun _ _ => e2
end


end Go.Proofs.YtbicoknghdgahaaGreat

namespace Go.Proofs.YtbicoknghdgahaaGreat

def SortK (l : List ByteArray) : Prop := l.Pairwise fun a b => klt a b = true

def mergeK : List ByteArray → List ByteArray → List ByteArray
 | [], b => b
 | a, [] => a
 | x :: a, y :: b => if x = y then x :: mergeK a b else if klt x y = true then x :: mergeK a (y :: b) else y :: mergeK (x :: a) b
termination_by a b => a.length + b.length

theorem mergeK_nil (a : List ByteArray) : mergeK a [] = a := by cases a <;> simp [mergeK]
theorem mem_mergeK (a b : List ByteArray) (k : ByteArray) : k ∈ mergeK a b ↔ k ∈ a ∨ k ∈ b := by
 fun_induction mergeK a b with
 | case1 b => simp
 | case2 a h => simp
 | case3 a y b ih => simp only [List.mem_cons, ih]; constructor; (rintro (h | h | h) <;> simp [h]); (rintro ((h | h) | h | h) <;> simp [h])
 | case4 x a y b h1 h2 ih => simp only [List.mem_cons, ih]; simp [or_assoc]
 | case5 x a y b h1 h2 ih =>
  simp only [List.mem_cons, ih]
  constructor
  ·rintro (h | (h | h) | h) <;> simp [h]
  ·rintro ((h | h) | h | h) <;> simp [h]

theorem mergeK_sorted (a b : List ByteArray) (ha : SortK a) (hb : SortK b) : SortK (mergeK a b) := by
 fun_induction mergeK a b with
 | case1 b => exact hb
 | case2 a h => exact ha
 | case3 a y b ih =>
  obtain ⟨h1, h2⟩ := List.pairwise_cons.1 ha
  obtain ⟨h3, h4⟩ := List.pairwise_cons.1 hb
  refine List.pairwise_cons.2 ⟨fun k hk => ?_, ih h2 h4⟩
  rcases (mem_mergeK _ _ _).1 hk with h | h
  ·exact h1 k h
  ·exact h3 k h
 | case4 x a y b e1 e2 ih =>
  obtain ⟨h1, h2⟩ := List.pairwise_cons.1 ha
  refine List.pairwise_cons.2 ⟨fun k hk => ?_, ih h2 hb⟩
  rcases (mem_mergeK _ _ _).1 hk with h | h
  ·exact h1 k h
  ·rcases List.mem_cons.1 h with rfl | h
   ·exact e2
   ·exact klt_trans e2 ((List.pairwise_cons.1 hb).1 k h)
 | case5 x a y b e1 e2 ih =>
  have e3 : klt y x = true := klt_of_not (by simpa using e2) e1
  obtain ⟨h1, h2⟩ := List.pairwise_cons.1 hb
  refine List.pairwise_cons.2 ⟨fun k hk => ?_, ih ha h2⟩
  rcases (mem_mergeK _ _ _).1 hk with h | h
  ·rcases List.mem_cons.1 h with rfl | h
   ·exact e3
   ·exact klt_trans e3 ((List.pairwise_cons.1 ha).1 k h)
  ·exact h1 k h

theorem sortK_ext {a b : List ByteArray} (ha : SortK a) (hb : SortK b) (h : ∀ k, k ∈ a ↔ k ∈ b) : a = b := by
 induction a generalizing b with
 | nil =>
  cases b with
  | nil => rfl
  | cons y b => exact absurd ((h y).2 (by simp)) (by simp)
 | cons x a ih =>
  cases b with
  | nil => exact absurd ((h x).1 (by simp)) (by simp)
  | cons y b =>
   obtain ⟨h1, h2⟩ := List.pairwise_cons.1 ha
   obtain ⟨h3, h4⟩ := List.pairwise_cons.1 hb
   have e : x = y := by
    rcases List.mem_cons.1 ((h x).1 (by simp)) with e | e
    ·exact e
    ·rcases List.mem_cons.1 ((h y).2 (by simp)) with e' | e'
     ·exact e'.symm
     ·have g1 := h3 x e
      have g2 := h1 y e'
      rw [klt_asymm g1] at g2
      cases g2
   subst e
   rw [ih h2 h4 fun k => ?_]
   constructor
   ·intro hk
    rcases List.mem_cons.1 ((h k).1 (by simp [hk])) with e | e
    ·subst e; have := h1 k hk; rw [klt_irrefl] at this; cases this
    ·exact e
   ·intro hk
    rcases List.mem_cons.1 ((h k).2 (by simp [hk])) with e | e
    ·subst e; have := h3 k hk; rw [klt_irrefl] at this; cases this
    ·exact e
theorem SortK.nodup {l : List ByteArray} (h : SortK l) : l.Nodup := h.imp fun h => klt_ne h

def getT {α : Type} (l : List (ByteArray × α)) (k : ByteArray) : Option α := (l.find? fun p => decide (p.1 = k)).map Prod.snd
section
variable {α : Type} {l : List (ByteArray × α)}
theorem getT_mem {k : ByteArray} {t : α} (h : getT l k = some t) : (k, t) ∈ l := by
 unfold getT at h
 cases hf : l.find? fun p => decide (p.1 = k) with
 | none => rw [hf] at h; cases h
 | some p =>
  rw [hf] at h
  have h1 := List.mem_of_find?_eq_some hf
  have h2 := List.find?_some hf
  simp at h h2
  obtain ⟨p1, p2⟩ := p
  simp at h h2
  subst h; subst h2
  exact h1
theorem getT_none {k : ByteArray} : getT l k = none ↔ k ∉ l.map Prod.fst := by
 unfold getT
 simp only [Option.map_eq_none_iff, List.find?_eq_none, decide_eq_true_eq, List.mem_map, not_exists, not_and]
theorem getT_of {k : ByteArray} {t : α} (hs : Sorted l) (h : (k, t) ∈ l) : getT l k = some t := by
 cases hg : getT l k with
 | none => exact absurd (List.mem_map.2 ⟨_, h, rfl⟩) (getT_none.1 hg)
 | some u =>
  have hu := getT_mem hg
  have hn := sorted_nodup hs
  congr 1
  clear hg
  induction l with
  | nil => cases h
  | cons p r ih =>
   simp only [List.map_cons, List.nodup_cons] at hn
   rcases List.mem_cons.1 h with e | e <;> rcases List.mem_cons.1 hu with e' | e'
   ·subst e; cases e'; rfl
   ·subst e; exact absurd (List.mem_map.2 ⟨_, e', rfl⟩) hn.1
   ·subst e'; exact absurd (List.mem_map.2 ⟨_, e, rfl⟩) hn.1
   ·exact ih (List.pairwise_cons.1 hs).2 e e' hn.2
end
theorem sortK_of {α : Type} {l : List (ByteArray × α)} (h : Sorted l) : SortK (l.map Prod.fst) := by
 unfold SortK
 rw [List.pairwise_map]
 exact h

def bothK (l1 l2 : List (ByteArray × T)) : List ByteArray := mergeK (l1.map Prod.fst) (l2.map Prod.fst)

structure CmpAt (l1 l2 : List (ByteArray × T)) (i : Nat) : Prop where
 le1 : i ≤ l1.length
 le2 : i ≤ l2.length
 same : (l1.take i).map Prod.fst = (l2.take i).map Prod.fst
 rest : (bothK l1 l2).drop i = mergeK ((l1.drop i).map Prod.fst) ((l2.drop i).map Prod.fst)
 val : T.cmpM (l1.drop i) (l2.drop i) = T.cmpM l1 l2

theorem CmpAt.zero (l1 l2 : List (ByteArray × T)) : CmpAt l1 l2 0 := ⟨Nat.zero_le _, Nat.zero_le _, rfl, by simp [bothK], by simp⟩

def cmpStep (l1 l2 : List (ByteArray × T)) (i : Nat) (k : ByteArray) : Int :=
 if i = l1.length then -1 else if i = l2.length then 1 else match getT l1 k, getT l2 k with
  | none, _ => 1
  | some _, none => -1
  | some a, some b => T.cmp a b

theorem CmpAt.next {l1 l2 : List (ByteArray × T)} {i : Nat} {k : ByteArray} (h : CmpAt l1 l2 i) (s1 : Sorted l1) (s2 : Sorted l2) (hk : (bothK l1 l2)[i]? = some k) :
  (cmpStep l1 l2 i k = 0 → CmpAt l1 l2 (i + 1)) ∧ (cmpStep l1 l2 i k ≠ 0 → T.cmpM l1 l2 = cmpStep l1 l2 i k) := by
 obtain ⟨h1, h2, hs, hr, hv⟩ := h
 have hk' : ((bothK l1 l2).drop i)[0]? = some k := by rw [List.getElem?_drop]; simpa using hk
 unfold cmpStep
 by_cases e1 : i = l1.length
 ·rw [if_pos e1]
  refine ⟨fun h => by omega, fun _ => ?_⟩
  rw [← hv]
  cases hd : l2.drop i with
  | nil =>
   rw [hr, hd, e1, List.drop_length] at hk'
   simp [mergeK_nil] at hk'
  | cons p r => rw [e1, List.drop_length]; simp [T.cmpM]
 ·rw [if_neg e1]
  by_cases e2 : i = l2.length
  ·rw [if_pos e2]
   refine ⟨fun h => by omega, fun _ => ?_⟩
   rw [← hv]
   have q1 := List.drop_eq_getElem_cons (show i < l1.length by omega)
   have q2 : l2.drop i = [] := List.drop_of_length_le (by omega)
   rw [q1, q2]
   simp [T.cmpM]
  ·rw [if_neg e2]
   have g1 : i < l1.length := by omega
   have g2 : i < l2.length := by omega
   have d1 := List.drop_eq_getElem_cons g1
   have d2 := List.drop_eq_getElem_cons g2
   have m1 : (l1[i].1, l1[i].2) ∈ l1 := List.getElem_mem g1
   have m2 : (l2[i].1, l2[i].2) ∈ l2 := List.getElem_mem g2
   rw [d1, d2] at hv hr
   have t1 : l1.take (i + 1) = l1.take i ++ [l1[i]] := List.take_succ_eq_append_getElem g1
   have t2 : l2.take (i + 1) = l2.take i ++ [l2[i]] := List.take_succ_eq_append_getElem g2
   have a1 : ∀ k, k ∈ l1.map Prod.fst ↔ k ∈ (l1.take i).map Prod.fst ∨ k = l1[i].1 ∨ k ∈ (l1.drop (i + 1)).map Prod.fst := by
    intro k
    have := List.take_append_drop i l1
    rw [d1] at this
    have e : k ∈ l1.map Prod.fst ↔ k ∈ (l1.take i ++ l1[i] :: l1.drop (i + 1)).map Prod.fst := by rw [this]
    rw [e, List.map_append, List.map_cons, List.mem_append, List.mem_cons]
   have a2 : ∀ k, k ∈ l2.map Prod.fst ↔ k ∈ (l2.take i).map Prod.fst ∨ k = l2[i].1 ∨ k ∈ (l2.drop (i + 1)).map Prod.fst := by
    intro k
    have := List.take_append_drop i l2
    rw [d2] at this
    have e : k ∈ l2.map Prod.fst ↔ k ∈ (l2.take i ++ l2[i] :: l2.drop (i + 1)).map Prod.fst := by rw [this]
    rw [e, List.map_append, List.map_cons, List.mem_append, List.mem_cons]
   have b1 : ∀ k ∈ (l1.take i).map Prod.fst, klt k l1[i].1 = true := by
    intro k hk
    obtain ⟨p, hp, rfl⟩ := List.mem_map.1 hk
    have := List.take_append_drop i l1
    rw [d1] at this
    have hs1 : Sorted (l1.take i ++ l1[i] :: l1.drop (i + 1)) := by rw [this]; exact s1
    exact (List.pairwise_append.1 hs1).2.2 p hp _ List.mem_cons_self
   have b2 : ∀ k ∈ (l2.take i).map Prod.fst, klt k l2[i].1 = true := by
    intro k hk
    obtain ⟨p, hp, rfl⟩ := List.mem_map.1 hk
    have := List.take_append_drop i l2
    rw [d2] at this
    have hs1 : Sorted (l2.take i ++ l2[i] :: l2.drop (i + 1)) := by rw [this]; exact s2
    exact (List.pairwise_append.1 hs1).2.2 p hp _ List.mem_cons_self
   have c1 : ∀ k ∈ (l1.drop (i + 1)).map Prod.fst, klt l1[i].1 k = true := by
    intro k hk
    obtain ⟨p, hp, rfl⟩ := List.mem_map.1 hk
    have hs1 : Sorted (l1[i] :: l1.drop (i + 1)) := by rw [← d1]; exact List.Pairwise.drop s1
    exact (List.pairwise_cons.1 hs1).1 p hp
   have c2 : ∀ k ∈ (l2.drop (i + 1)).map Prod.fst, klt l2[i].1 k = true := by
    intro k hk
    obtain ⟨p, hp, rfl⟩ := List.mem_map.1 hk
    have hs1 : Sorted (l2[i] :: l2.drop (i + 1)) := by rw [← d2]; exact List.Pairwise.drop s2
    exact (List.pairwise_cons.1 hs1).1 p hp
   have gt1 := getT_of s1 m1
   have gt2 := getT_of s2 m2
   generalize l1[i] = p1 at *
   generalize l2[i] = p2 at *
   obtain ⟨k1, u1⟩ := p1
   obtain ⟨k2, u2⟩ := p2
   simp only [List.map_cons] at hv hr a1 a2 b1 b2 c1 c2 gt1 gt2
   rw [mergeK] at hr
   by_cases e : k1 = k2
   ·subst e
    rw [if_pos rfl] at hr
    rw [hr] at hk'
    simp at hk'
    subst hk'
    rw [gt1, gt2]
    simp only
    rw [T.cmpM, cmpS_zero.2 rfl, if_pos rfl] at hv
    refine ⟨fun hz => ⟨g1, g2, ?_, ?_, ?_⟩, fun hz => ?_⟩
    ·rw [t1, t2, List.map_append, List.map_append, hs]; rfl
    ·rw [← List.drop_drop, hr]; rfl
    ·rw [if_pos hz] at hv; exact hv
    ·rw [if_neg hz] at hv; exact hv.symm
   ·rw [if_neg e] at hr
    by_cases e' : klt k1 k2 = true
    ·rw [if_pos e'] at hr
     rw [hr] at hk'
     simp at hk'
     subst hk'
     have hn : getT l2 k1 = none := by
      rw [getT_none, a2]
      rintro (h | h | h)
      ·rw [← hs] at h
       have := b1 _ h
       rw [klt_irrefl] at this; cases this
      ·exact e h
      ·have := klt_trans (c2 _ h) e'
       rw [klt_irrefl] at this; cases this
     rw [gt1, hn]
     simp only
     refine ⟨fun h => by omega, fun _ => ?_⟩
     have q := cmpS_eq k1 k2
     rw [if_pos e'] at q
     rw [← hv, T.cmpM, q, if_neg (by omega)]
    ·rw [if_neg e'] at hr
     have e'' : klt k2 k1 = true := klt_of_not (by simpa using e') e
     rw [hr] at hk'
     simp at hk'
     subst hk'
     have hn : getT l1 k2 = none := by
      rw [getT_none, a1]
      rintro (h | h | h)
      ·rw [hs] at h
       have := b2 _ h
       rw [klt_irrefl] at this; cases this
      ·exact e h.symm
      ·have := klt_trans (c1 _ h) e''
       rw [klt_irrefl] at this; cases this
     rw [hn]
     simp only
     refine ⟨fun h => by omega, fun _ => ?_⟩
     have q := cmpS_eq k1 k2
     rw [if_neg e', if_neg e] at q
     rw [← hv, T.cmpM, q, if_neg (by omega)]
theorem CmpAt.end_ {l1 l2 : List (ByteArray × T)} (h : CmpAt l1 l2 (bothK l1 l2).length) : T.cmpM l1 l2 = 0 := by
 obtain ⟨h1, h2, hs, hr, hv⟩ := h
 rw [List.drop_length] at hr
 rw [← hv]
 generalize l1.drop (bothK l1 l2).length = d1 at *
 generalize l2.drop (bothK l1 l2).length = d2 at *
 have g : ∀ k, k ∉ d1.map Prod.fst ∧ k ∉ d2.map Prod.fst := by
  intro k
  have := mem_mergeK (d1.map Prod.fst) (d2.map Prod.fst) k
  rw [← hr] at this
  simp at this
  simpa using this
 cases d1 with
 | nil =>
  cases d2 with
  | nil => simp [T.cmpM]
  | cons p r => exact absurd (by simp) (g p.1).2
 | cons p r => exact absurd (by simp) (g p.1).1

end Go.Proofs.YtbicoknghdgahaaGreat

namespace Go.Proofs.YtbicoknghdgahaaGreat

def InsInv (L : List ByteArray) (i j : Nat) : Prop := ∃ A x B C, L = A ++ x :: (B ++ C) ∧ SortK (A ++ B) ∧ (∀ b ∈ B, klt x b = true) ∧ A.length = j ∧ A.length + B.length = i

theorem ins_start {L : List ByteArray} {i : Nat} (h : SortK (L.take i)) (hi : i < L.length) : InsInv L i i :=
 ⟨L.take i, L[i], [], L.drop (i + 1), by rw [List.nil_append, ← List.drop_eq_getElem_cons hi, List.take_append_drop], by simpa using h, by simp, by simp; omega, by simp; omega⟩

theorem InsInv.lt {L : List ByteArray} {i j : Nat} (h : InsInv L i j) : j ≤ i ∧ i < L.length := by
 obtain ⟨A, x, B, C, rfl, _, _, h1, h2⟩ := h
 simp only [List.length_append, List.length_cons]
 omega

def swapL (L : List ByteArray) (j : Nat) (x y : ByteArray) : List ByteArray := (L.set j x).set (j - 1) y

theorem InsInv.step {L : List ByteArray} {i j : Nat} (h : InsInv L i j) (hj : 0 < j) (x y : ByteArray) (hx : L[j]? = some x) (hy : L[j - 1]? = some y) (hlt : klt x y = true) : InsInv (swapL L j y x) i (j - 1) ∧ (swapL L j y x).Perm L := by
 obtain ⟨A, u, B, C, rfl, hs, hb, h1, h2⟩ := h
 have hA : A ≠ [] := by rintro rfl; simp at h1; omega
 obtain ⟨A', v, rfl⟩ : ∃ A' v, A = A' ++ [v] := ⟨A.dropLast, A.getLast hA, (List.dropLast_concat_getLast hA).symm⟩
 simp only [List.length_append, List.length_cons, List.length_nil] at h1 h2
 have e1 : j - 1 = A'.length := by omega
 have e2 : j = (A' ++ [v]).length := by simp; omega
 have hu : u = x := by
  rw [e2, List.getElem?_append_right (Nat.le_refl _)] at hx
  simpa using hx
 have hv : v = y := by
  rw [e1, List.append_assoc, List.getElem?_append_right (Nat.le_refl _)] at hy
  simpa using hy
 subst hu; subst hv
 have e : swapL (A' ++ [v] ++ u :: (B ++ C)) j v u = A' ++ u :: (v :: B ++ C) := by
  unfold swapL
  rw [e1, e2, List.set_append_right _ _ (Nat.le_refl _)]
  simp only [Nat.sub_self, List.set_cons_zero, List.append_assoc, List.singleton_append]
  rw [List.set_append_right _ _ (Nat.le_refl _)]
  simp
 rw [e]
 refine ⟨⟨A', u, v :: B, C, rfl, by simpa using hs, ?_, by omega, by simp only [List.length_cons]; omega⟩, ?_⟩
 ·intro b hb'
  rcases List.mem_cons.1 hb' with rfl | hb'
  ·exact hlt
  ·exact hb b hb'
 ·simp only [List.append_assoc, List.cons_append, List.nil_append]
  exact List.Perm.append_left A' (List.Perm.swap _ _ _)

theorem InsInv.done_ {L : List ByteArray} {i j : Nat} (h : InsInv L i j) (hn : L.Nodup) (hd : j = 0 ∨ ∃ x y, L[j]? = some x ∧ L[j - 1]? = some y ∧ klt x y = false) : SortK (L.take (i + 1)) := by
 obtain ⟨A, u, B, C, rfl, hs, hb, h1, h2⟩ := h
 have e : (A ++ u :: (B ++ C)).take (i + 1) = A ++ u :: B := by
  have : A ++ u :: (B ++ C) = (A ++ u :: B) ++ C := by simp
  rw [this]
  exact List.take_left' (by simp; omega)
 rw [e]
 obtain ⟨q1, q2, q3⟩ := List.pairwise_append.1 hs
 have hAu : ∀ a ∈ A, klt a u = true := by
  rcases hd with rfl | ⟨x, y, hx, hy, hl⟩
  ·have : A = [] := List.eq_nil_of_length_eq_zero h1
   subst this
   simp
  ·by_cases hA : A = []
   ·subst hA; simp
   ·obtain ⟨A', v, rfl⟩ : ∃ A' v, A = A' ++ [v] := ⟨A.dropLast, A.getLast hA, (List.dropLast_concat_getLast hA).symm⟩
    simp only [List.length_append, List.length_cons, List.length_nil] at h1 h2
    have e1 : j - 1 = A'.length := by omega
    have e2 : j = (A' ++ [v]).length := by simp; omega
    have hu : u = x := by
     rw [e2, List.getElem?_append_right (Nat.le_refl _)] at hx
     simpa using hx
    have hv : v = y := by
     rw [e1, List.append_assoc, List.getElem?_append_right (Nat.le_refl _)] at hy
     simpa using hy
    subst hu; subst hv
    have hne : u ≠ v := by
     rintro rfl
     have := (List.nodup_append.1 hn).2.2 u (by simp) u (by simp)
     exact this rfl
    have hvu : klt v u = true := klt_of_not hl hne
    intro a ha
    rcases List.mem_append.1 ha with ha | ha
    ·exact klt_trans ((List.pairwise_append.1 q1).2.2 a ha v (by simp)) hvu
    ·simp at ha; subst ha; exact hvu
 refine List.pairwise_append.2 ⟨q1, List.pairwise_cons.2 ⟨hb, q2⟩, ?_⟩
 intro a ha b hb'
 rcases List.mem_cons.1 hb' with rfl | hb'
 ·exact hAu a ha
 ·exact q3 a ha b hb'

end Go.Proofs.YtbicoknghdgahaaGreat

namespace Go.Proofs.YtbicoknghdgahaaGreat

end Go.Proofs.YtbicoknghdgahaaGreat
