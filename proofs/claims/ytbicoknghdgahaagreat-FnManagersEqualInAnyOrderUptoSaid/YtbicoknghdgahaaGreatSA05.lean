/- Parts: MngP, MngM. -/
import Derived.Test.YtbicoknghdgahaaGreatKE01
import Derived.Test.YtbicoknghdgahaaGreatSA04
set_option linter.unusedVariables false
set_option linter.unusedSimpArgs false
namespace Go.Proofs.YtbicoknghdgahaaGreat

structure Mgr where
 name : ByteArray
 ver : ByteArray
 app : Bool
 set : List (List REl)

def Mgr.eqv (N : Nat) (m x : Mgr) : Bool := decide (m.ver = x.ver) && (decide (m.app = x.app) && eqS N (setP (pels m.set)) (setP (pels x.set)))
def findM (r : List Mgr) (k : ByteArray) : Option Mgr := r.find? fun x => decide (x.name = k)
def agreeM (N : Nat) (r : List Mgr) (m : Mgr) : Bool :=
 match findM r m.name with
 | none => false
 | some x => m.eqv N x
def eqM (N : Nat) (l r : List Mgr) : Bool := decide (l.length = r.length) && l.all (agreeM N r)
def Mgr.back (m : Mgr) : Mgr := { m with set := m.set.reverse }
def rotM (t : Nat) (l : List Mgr) : List Mgr := l.drop t ++ l.take t
def outM (t : Nat) (l : List Mgr) : List Mgr := (rotM t l).map Mgr.back
def namesM (l : List Mgr) : List ByteArray := l.map Mgr.name
def Mgr.good (N : Nat) (m : Mgr) : Prop := (∀ p ∈ pels m.set, POk p) ∧ (setP (pels m.set)).Ht N ∧ (setP (pels m.set.reverse)).Ht N

theorem findM_of {l : List Mgr} (hn : (namesM l).Nodup) {m : Mgr} (hm : m ∈ l) : findM l m.name = some m := by
 unfold findM
 induction l with
 | nil => cases hm
 | cons a l ih =>
  have hn' : (∀ x ∈ namesM l, a.name ≠ x) ∧ (namesM l).Nodup := List.pairwise_cons.1 hn
  rw [List.find?_cons]
  rcases List.mem_cons.1 hm with rfl | hm'
  ·simp
  ·have : a.name ≠ m.name := hn'.1 _ (List.mem_map.2 ⟨m, hm', rfl⟩)
   simp only [this, decide_false]
   exact ih hn'.2 hm'
theorem findM_none {l : List Mgr} {k : ByteArray} (h : k ∉ namesM l) : findM l k = none := by
 unfold findM
 rw [List.find?_eq_none]
 intro x hx hk
 exact h (List.mem_map.2 ⟨x, hx, by simpa using hk⟩)
theorem rotM_length (t : Nat) (l : List Mgr) : (rotM t l).length = l.length := by simp [rotM]; omega
theorem outM_length (t : Nat) (l : List Mgr) : (outM t l).length = l.length := by rw [outM, List.length_map, rotM_length]
theorem rotM_get {t i : Nat} {l : List Mgr} (ht : t < l.length) (hi : i < l.length) : (rotM t l)[i]? = l[(i + t) % l.length]? := by
 unfold rotM
 by_cases h : i + t < l.length
 ·rw [List.getElem?_append_left (by simp; omega), List.getElem?_drop, Nat.mod_eq_of_lt h, Nat.add_comm]
 ·rw [List.getElem?_append_right (by simp; omega), List.getElem?_take, List.length_drop]
  have e : (i + t) % l.length = i + t - l.length := by
   rw [Nat.mod_eq_sub_mod (by omega), Nat.mod_eq_of_lt (by omega)]
  rw [e, if_pos (by omega)]
  congr 1
  omega
theorem outM_get {t i : Nat} {l : List Mgr} (ht : t < l.length) (hi : i < l.length) (hj : (i + t) % l.length < l.length) : (outM t l)[i]? = some (l[(i + t) % l.length]).back := by
 unfold outM
 rw [List.getElem?_map, rotM_get ht hi, List.getElem?_eq_getElem hj]
 rfl
theorem rotM_perm (t : Nat) (l : List Mgr) : (rotM t l).Perm l := by
 unfold rotM
 have := (List.perm_append_comm (l₁ := l.drop t) (l₂ := l.take t))
 rwa [List.take_append_drop] at this
theorem names_out (t : Nat) (l : List Mgr) : (namesM (outM t l)).Perm (namesM l) := by
 unfold namesM outM
 rw [List.map_map]
 exact (rotM_perm t l).map _
theorem nodup_out {t : Nat} {l : List Mgr} (h : (namesM l).Nodup) : (namesM (outM t l)).Nodup := (names_out t l).nodup_iff.2 h
theorem mem_out {t : Nat} {l : List Mgr} {x : Mgr} : x ∈ outM t l ↔ ∃ m ∈ l, x = m.back := by
 unfold outM
 rw [List.mem_map]
 constructor
 ·rintro ⟨m, hm, rfl⟩; exact ⟨m, (rotM_perm t l).mem_iff.1 hm, rfl⟩
 ·rintro ⟨m, hm, rfl⟩; exact ⟨m, (rotM_perm t l).mem_iff.2 hm, rfl⟩
theorem pels_rev (l : List (List REl)) : pels l.reverse = (pels l).reverse := by unfold pels; rw [List.map_reverse]
theorem hasC_rev {l : List (List E)} {x : List E} : HasC wcmp l.reverse x ↔ HasC wcmp l x := by simp [HasC]
theorem eqv_back {N : Nat} {m : Mgr} (h : m.good N) : m.eqv N m.back = true ∧ m.back.eqv N m = true := by
 obtain ⟨h1, h2, h3⟩ := h
 have h1' : ∀ p ∈ pels m.set.reverse, POk p := fun p hp => h1 p (by rw [pels_rev] at hp; exact List.mem_reverse.1 hp)
 have e1 : eqS N (setP (pels m.set)) (setP (pels m.back.set)) = true := (eqS_lists h1 h1' h2 h3).2 fun x _ _ => by rw [pels_rev, hasC_rev]
 have e2 : eqS N (setP (pels m.back.set)) (setP (pels m.set)) = true := (eqS_lists h1' h1 h3 h2).2 fun x _ _ => by rw [pels_rev, hasC_rev]
 unfold Mgr.eqv
 rw [e1, e2]
 simp [Mgr.back]
theorem eqM_out {N t : Nat} {l : List Mgr} (hn : (namesM l).Nodup) (hg : ∀ m ∈ l, m.good N) : eqM N l (outM t l) = true ∧ eqM N (outM t l) l = true := by
 unfold eqM
 rw [outM_length]
 constructor
 ·simp only [decide_true, Bool.true_and, List.all_eq_true]
  intro m hm
  unfold agreeM
  rw [show m.name = m.back.name from rfl, findM_of (nodup_out hn) (mem_out.2 ⟨m, hm, rfl⟩)]
  exact (eqv_back (hg m hm)).1
 ·simp only [decide_true, Bool.true_and, List.all_eq_true]
  intro x hx
  obtain ⟨m, hm, rfl⟩ := mem_out.1 hx
  unfold agreeM
  rw [show m.back.name = m.name from rfl, findM_of hn hm]
  exact (eqv_back (hg m hm)).2
theorem eqM_other {N : Nat} {l q : List Mgr} {o : Mgr} {v : ByteArray} (hn : (namesM l).Nodup) (hp : (namesM (o :: q)).Nodup) (hm : ∃ m ∈ l, o = m.back) (hv : o.ver ≠ v) : eqM N l ({ o with ver := v } :: q) = false := by
 obtain ⟨m, hm, rfl⟩ := hm
 rw [Bool.eq_false_iff]
 intro h
 unfold eqM at h
 rw [Bool.and_eq_true, List.all_eq_true] at h
 have := h.2 m hm
 unfold agreeM at this
 rw [show m.name = ({ m.back with ver := v } : Mgr).name from rfl, findM_of (l := { m.back with ver := v } :: q) hp (by simp)] at this
 unfold Mgr.eqv at this
 rw [Bool.and_eq_true] at this
 exact hv (by have h3 := this.1; simp at h3; exact h3)
theorem eqM_marked {N : Nat} {l q : List Mgr} {o : Mgr} {b : Bool} (hn : (namesM l).Nodup) (hm : ∃ m ∈ l, o = m.back) (hv : o.app ≠ b) : eqM N ({ o with app := b } :: q) l = false := by
 obtain ⟨m, hm, rfl⟩ := hm
 rw [Bool.eq_false_iff]
 intro h
 unfold eqM at h
 rw [Bool.and_eq_true, List.all_eq_true] at h
 have := h.2 _ (List.mem_cons_self)
 unfold agreeM at this
 rw [show ({ m.back with app := b } : Mgr).name = m.name from rfl, findM_of hn hm] at this
 unfold Mgr.eqv at this
 rw [Bool.and_eq_true, Bool.and_eq_true] at this
 exact hv (by have := this.2.1; simp [Mgr.back] at this ⊢; exact this.symm)
theorem eqM_short {N : Nat} {l q : List Mgr} {o : Mgr} (h : l.length = (o :: q).length) : eqM N l q = false := by
 rw [Bool.eq_false_iff]
 intro h'
 unfold eqM at h'
 rw [Bool.and_eq_true] at h'
 simp at h h'
 omega

def addN (a : List (ByteArray × Unit)) (m : Mgr) : List (ByteArray × Unit) := ins m.name () a
def cleanN (l : List Mgr) : List (ByteArray × Unit) := l.foldl addN []
theorem cleanN_snoc (l : List Mgr) (m : Mgr) : cleanN (l ++ [m]) = ins m.name () (cleanN l) := by simp [cleanN, addN]
theorem foldN_sorted (l : List Mgr) : ∀ a, Sorted a → Sorted (l.foldl addN a) := by
 induction l with
 | nil => intro a h; exact h
 | cons m l ih => intro a h; exact ih _ (ins_sorted h)
theorem cleanN_sorted (l : List Mgr) : Sorted (cleanN l) := foldN_sorted l [] List.Pairwise.nil
theorem foldN_length (l : List Mgr) : ∀ a, (l.foldl addN a).length ≤ a.length + l.length := by
 induction l with
 | nil => intro a; simp
 | cons m l ih => intro a; have h1 := ih (addN a m); have h2 : (addN a m).length ≤ a.length + 1 := ins_length m.name () a; simp only [List.foldl_cons, List.length_cons]; omega
theorem cleanN_length (l : List Mgr) : (cleanN l).length ≤ l.length := by have := foldN_length l []; simpa [cleanN] using this
theorem ins_length_mem {k : ByteArray} {l : List (ByteArray × Unit)} (hs : Sorted l) (hk : k ∈ l.map Prod.fst) : (ins k () l).length = l.length := by
 induction l with
 | nil => cases hk
 | cons p r ih =>
  obtain ⟨h1, h2⟩ := List.pairwise_cons.1 hs
  simp only [ins]
  by_cases h : klt p.1 k = true
  ·rw [if_pos h]
   have hk' : k ∈ r.map Prod.fst := by
    rcases List.mem_cons.1 hk with e | e
    ·exact absurd e.symm (klt_ne h)
    ·exact e
   simp only [List.length_cons, ih h2 hk']
  ·rw [if_neg h]
   by_cases e : p.1 = k
   ·rw [if_pos e]; rfl
   ·exfalso
    rcases List.mem_cons.1 hk with e' | e'
    ·exact e e'.symm
    ·obtain ⟨q, hq, rfl⟩ := List.mem_map.1 e'
     exact h (h1 q hq)
theorem foldN_nodup (l : List Mgr) : ∀ a, Sorted a → (l.foldl addN a).length = a.length + l.length → (namesM l).Nodup ∧ ∀ m ∈ l, m.name ∉ a.map Prod.fst := by
 induction l with
 | nil => intro a _ _; exact ⟨List.Pairwise.nil, fun m hm => by cases hm⟩
 | cons m l ih =>
  intro a ha h
  simp only [List.foldl_cons, List.length_cons] at h
  have h1 := foldN_length l (addN a m)
  have h2 : (addN a m).length ≤ a.length + 1 := ins_length m.name () a
  have h3 : (addN a m).length = a.length + 1 := by omega
  have h4 : (ins m.name () a).length = a.length + 1 := h3
  have hm : m.name ∉ a.map Prod.fst := fun hk => by have := ins_length_mem ha hk; omega
  obtain ⟨q1, q2⟩ := ih (addN a m) (ins_sorted ha) (by omega)
  refine ⟨List.pairwise_cons.2 ⟨fun x hx e => ?_, q1⟩, fun x hx hk => ?_⟩
  ·obtain ⟨y, hy, rfl⟩ := List.mem_map.1 hx
   exact q2 y hy ((keys_ins ha _).2 (.inl e.symm))
  ·rcases List.mem_cons.1 hx with rfl | hx
   ·exact hm hk
   ·exact q2 x hx ((keys_ins ha _).2 (.inr hk))
theorem cleanN_nodup {l : List Mgr} (h : (cleanN l).length = l.length) : (namesM l).Nodup := (foldN_nodup l [] List.Pairwise.nil (by simpa [cleanN] using h)).1

end Go.Proofs.YtbicoknghdgahaaGreat

namespace Go.Proofs.YtbicoknghdgahaaGreat
open Go.RowKit
attribute [local go_sem] run_store_float

def MgAt (F : Nat → Prop) (w : World) (m : Mgr) (cs : List Value) : Prop := ∃ A c, cs = [.string m.name, .string m.ver, .bool m.app, .slice A m.set.length c] ∧ PathsAt F w m.set A c
def MgsAt (F : Nat → Prop) (w : World) (l : List Mgr) (A : Option Addr) (c : Nat) : Prop := l.length * 64 ≤ R47 ∧ l.length ≤ c ∧ c ≤ maxLen ∧ ∃ xs, Row F w 4 A l.length xs ∧ Cells 4 (MgAt F w) l xs
def VsAt (F : Nat → Prop) (w : World) (m : Mgr) (v : Value) : Prop := ∃ g, v = .iface 323 (.agg #[.pointer (some ⟨g, 0, none⟩), .string m.ver, .bool m.app]) ∧ SetR F w g (setP (pels m.set))
def ManAt (F : Nat → Prop) (w : World) (l : List Mgr) (r : Nat) : Prop := F r ∧ ∃ val, MapIs w r (namesM l) val ∧ ∀ m ∈ l, VsAt F w m (val m.name)
section
variable {F G : Nat → Prop} {w w' : World} {A : Option Addr} {c : Nat}
theorem MgAt.keeps {m : Mgr} {cs : List Value} (h : MgAt F w m cs) (hk : Keeps F w w') : MgAt F w' m cs := by
 obtain ⟨A, c, e, h⟩ := h
 exact ⟨A, c, e, h.keeps hk⟩
theorem MgAt.mono {m : Mgr} {cs : List Value} (h : MgAt F w m cs) (hk : ∀ b, F b → G b) : MgAt G w m cs := by
 obtain ⟨A, c, e, h⟩ := h
 exact ⟨A, c, e, h.mono hk⟩
theorem MgsAt.keeps {l : List Mgr} (h : MgsAt F w l A c) (hk : Keeps F w w') : MgsAt F w' l A c := by
 obtain ⟨h1, h2, h3, xs, h4, h5⟩ := h
 exact ⟨h1, h2, h3, xs, h4.keeps hk, h5.mono fun _ _ h => h.keeps hk⟩
theorem MgsAt.mono {l : List Mgr} (h : MgsAt F w l A c) (hk : ∀ b, F b → G b) : MgsAt G w l A c := by
 obtain ⟨h1, h2, h3, xs, h4, h5⟩ := h
 exact ⟨h1, h2, h3, xs, h4.mono hk, h5.mono fun _ _ h => h.mono hk⟩
theorem MgsAt.at_ {l : List Mgr} (h : MgsAt (Old w) w l A c) (hb : Below w.heap.size w w') : MgsAt (Old w') w' l A c :=
 (h.keeps (Keeps.below hb fun _ h => h)).mono fun _ h => Nat.lt_of_lt_of_le h hb.size
theorem VsAt.keeps {m : Mgr} {v : Value} (h : VsAt F w m v) (hk : Keeps F w w') : VsAt F w' m v := by
 obtain ⟨g, e, h⟩ := h
 exact ⟨g, e, h.keeps hk⟩
theorem VsAt.mono {m : Mgr} {v : Value} (h : VsAt F w m v) (hk : ∀ b, F b → G b) : VsAt G w m v := by
 obtain ⟨g, e, h⟩ := h
 exact ⟨g, e, h.mono hk⟩
theorem ManAt.keeps {l : List Mgr} {r : Nat} (h : ManAt F w l r) (hk : Keeps F w w') : ManAt F w' l r := by
 obtain ⟨h0, val, h1, h2⟩ := h
 exact ⟨h0, val, h1.keep (hk r h0), fun m hm => (h2 m hm).keeps hk⟩
theorem ManAt.mono {l : List Mgr} {r : Nat} (h : ManAt F w l r) (hk : ∀ b, F b → G b) : ManAt G w l r := by
 obtain ⟨h0, val, h1, h2⟩ := h
 exact ⟨hk r h0, val, h1, fun m hm => (h2 m hm).mono hk⟩
theorem ManAt.at_ {l : List Mgr} {r : Nat} (h : ManAt (Old w) w l r) (hb : Below w.heap.size w w') : ManAt (Old w') w' l r :=
 (h.keeps (Keeps.below hb fun _ h => h)).mono fun _ h => Nat.lt_of_lt_of_le h hb.size
end
def TameM (l : List Mgr) : Prop := ∀ m ∈ l, ∀ p ∈ pels m.set, POk p

def TGInv (w : World) (l : List Mgr) (s : Value) (W : World) : Prop :=
 ∃ k : Nat, s = .int .i64 (k : Int) ∧ k ≤ l.length ∧ (∀ m ∈ l.take k, ∀ p ∈ m.set, POk (pel p)) ∧ Below w.heap.size w W

set_option maxRecDepth 100000 in
set_option maxHeartbeats 8000000 in
theorem tameManagers_calls {l : List Mgr} {A : Option Addr} {c : Nat} {w : World} (h : MgsAt (Old w) w l A c) :
  Calls Tryz.prog 32 #[.slice A l.length c] w (OrdPost (∀ m ∈ l, ∀ p ∈ m.set, POk (pel p)) w) := by
 obtain ⟨h1, h2, h3, xs, h4, h5⟩ := h
 have h1' : l.length * 64 ≤ 140737488351232 := h1
 have H7 := hide (And.intro h4 h5)
 clear h1 h4 h5
 go_enter Tryz.func32, Tryz.ntmps32
 go_wp2_with fail
 go_loopw [7] (fun s7 W => TGInv w l s7 W) (fun s _ => l.length - (intOf s).toNat)
 case atStart => exact ⟨0, rfl, Nat.zero_le _, by simp, Below.refl _ _⟩
 case round =>
  obtain ⟨k, rfl, hk, hall, hb⟩ := hrel
  by_cases hlt : k < l.length
  ·have hki0 : (0 : Int) ≤ (k : Int) := Int.natCast_nonneg _
   have hki1 : (k : Int) < (l.length : Int) := by omega
   have hx := H7.out.2.at_ hlt
   have hsn : l.take (k + 1) = l.take k ++ [l[k]] := List.take_succ_eq_append_getElem hlt
   generalize l[k] = fx at *
   generalize hcs : (xs.drop (k * 4)).take 4 = fcs at hx
   obtain ⟨PA, pc, rfl, hp⟩ := hx
   obtain ⟨rb, ro, rfl, hF, hc⟩ := rown_at H7.out.1 hlt hcs
   have ec := (bcell hb).1
   have q0 := (ec _ _ hF).trans (hc 0 _ rfl)
   have q1 := (ec _ _ hF).trans (hc 1 _ rfl)
   have q2 := (ec _ _ hF).trans (hc 2 _ rfl)
   have q3 := (ec _ _ hF).trans (hc 3 _ rfl)
   rw [Nat.add_zero] at q0
   have hrb : rb < w.heap.size := hF
   have Hq := hide (And.intro hall (And.intro hb hsn))
   have HM := hide fun (W : World) (hb : Below w.heap.size w W) => orderlyPaths_calls (hp.at_ hb)
   have hwe : w.heap.size ≤ wr.heap.size := hb.size
   clear hall hb hsn hp hcs hc ec hF
   obtain ⟨wo, hwo⟩ : ∃ W, W = wr := ⟨_, rfl⟩
   subst hwo
   obtain ⟨pn, hpn⟩ : ∃ pn, fx.set.length = pn := ⟨_, rfl⟩
   rw [hpn] at q3 HM
   clear hpn
   go_upto_region 4 with fail
   have hbA : Below wo.heap.size wo (wo.alloc (.cells #[.string fx.name, .string fx.ver, .bool fx.app, .slice PA pn pc] 51)) := (Below.refl _ _).alloc (Nat.le_refl _) _
   have hX := Bk.new wo 51 #[.string fx.name, .string fx.ver, .bool fx.app, .slice PA pn pc]
   clear q0 q1 q2 q3
   generalize hw1 : World.alloc wo _ = w1 at hbA hX ⊢
   have x0 := hX.cell 0
   have x1 := hX.cell 1
   have x2 := hX.cell 2
   have x3 := hX.cell 3
   simp at x0 x1 x2 x3
   have H1 := hide (Hq.out.2.1.trans (hbA.mono hwe))
   clear hw1 hbA hX
   go_wp2_with fail
   refine (HM.out w1 H1.out).mono ?_
   rintro en w2 ⟨t, rfl, ho, hb2⟩
   have Ho := hide ho
   have H2 := hide (H1.out.trans (hb2.mono H1.out.size))
   clear ho hb2 HM H1 x0 x1 x2 x3
   cases t
   ·go_wp2
    go_ret
    exact ⟨false, rfl, fun h => (by cases h), H2.out⟩
   have hpo : ∀ p ∈ fx.set, POk (pel p) := Ho.out (by first | trivial | rfl)
   have Hfin := hide (And.intro (show ∀ m ∈ l.take (k + 1), ∀ p ∈ m.set, POk (pel p) from by
    rw [Hq.out.2.2]
    intro m hm
    rcases List.mem_append.1 hm with hm | hm
    ·exact Hq.out.1 m hm
    ·rw [List.mem_singleton.1 hm]; exact hpo) H2.out)
   clear hpo Ho Hq H2
   go_wp2_with fail
   exact ⟨⟨k + 1, by go_num, by omega, Hfin.out.1, Hfin.out.2⟩, by simp [intOf]; omega⟩
  ·have hke : k = l.length := by omega
   subst hke
   have hki1 : ¬ ((l.length : Nat) : Int) < (l.length : Int) := by omega
   rw [List.take_of_length_le (Nat.le_refl _)] at hall
   have H3 := hide (And.intro hall hb)
   clear hall hb
   go_wp2
   go_ret
   exact ⟨true, rfl, fun _ => H3.out.1, H3.out.2⟩

theorem newVersioned_calls (g : Nat) (v : ByteArray) (b : Bool) (w : World) : Calls Tryz.prog 134 #[.pointer (some ⟨g, 0, none⟩), .string v, .bool b] w fun en w' => en = .returned (.iface 323 (.agg #[.pointer (some ⟨g, 0, none⟩), .string v, .bool b])) ∧ w' = w := by
 go_enter Tryz.func134, Tryz.ntmps134
 go_wp2
 go_ret
 exact ⟨rfl, rfl⟩

def TVInv (w : World) (l : List Mgr) (s : Value) (W : World) : Prop :=
 ∃ (k : Nat) (val : ByteArray → Value), s = .int .i64 (k : Int) ∧ k ≤ l.length ∧ MapIs W w.heap.size (namesM (l.take k)) val ∧ (∀ m ∈ l.take k, VsAt (Fr (w.heap.size + 1) W) W m (val m.name)) ∧ Below w.heap.size w W

theorem tv_step {w wr w2 w3 : World} {l : List Mgr} {k : Nat} {val : ByteArray → Value} {m : Mgr} {g : Nat} {v : Value} (hn : (namesM l).Nodup) (hlt : k < l.length) (hm : l[k] = m) (hall : ∀ m ∈ l.take k, VsAt (Fr (w.heap.size + 1) wr) wr m (val m.name)) (hb : Below w.heap.size w wr) (hr : w.heap.size < wr.heap.size) (hb2 : Below wr.heap.size wr w2)
  (hv : v = .iface 323 (.agg #[.pointer (some ⟨g, 0, none⟩), .string m.ver, .bool m.app])) (hs : SetR (Fr wr.heap.size w2) w2 g (setP (pels m.set))) (hg : w2.grownBy w3 (some w.heap.size)) (hmap : MapIs w3 w.heap.size (namesM (l.take (k + 1))) (fun x => if x = m.name then v else val x)) (s : Value) (hsv : s = .int .i64 ((k + 1 : Nat) : Int)) :
  TVInv w l s w3 := by
 subst hm
 have hs2 : wr.heap.size ≤ w2.heap.size := hb2.size
 have hs3 : w2.heap.size ≤ w3.heap.size := hg.size
 have hkp : ∀ {F : Nat → Prop}, (∀ b, F b → b < w2.heap.size ∧ b ≠ w.heap.size) → Keeps F w2 w3 := fun hF => Keeps.grown hg fun x hx => ⟨(hF x hx).1, fun e => (hF x hx).2 (Option.some.inj e)⟩
 refine ⟨k + 1, _, hsv, by omega, hmap, ?_, (hb.trans (hb2.mono hb.size)).grown hg (Nat.le_trans hb.size hs2) fun b e => by cases e; exact Nat.le_refl _⟩
 intro x hx
 rw [List.take_succ_eq_append_getElem hlt] at hx
 rcases List.mem_append.1 hx with hx | hx
 ·have hne : x.name ≠ (l[k]).name := by
   intro e
   have h1 : (namesM (l.take k) ++ namesM [l[k]]).Nodup := by
    unfold namesM
    rw [← List.map_append, ← List.take_succ_eq_append_getElem hlt, List.map_take]
    exact (List.take_sublist _ _).nodup hn
   exact (List.nodup_append.1 h1).2.2 x.name (List.mem_map.2 ⟨x, hx, rfl⟩) (l[k]).name (by simp [namesM]) e
  simp only [hne, if_false]
  have h1 := (hall x hx).keeps (Keeps.below hb2 fun b hb => hb.2)
  exact (h1.keeps (hkp fun b hb => ⟨by have := hb.2; omega, by have := hb.1; omega⟩)).mono fun b hb => ⟨hb.1, by have := hb.2; omega⟩
 ·rw [List.mem_singleton.1 hx]
  simp only [if_true]
  exact ⟨g, hv, (hs.keeps (hkp fun b hb => ⟨hb.2, by have := hb.1; omega⟩)).mono fun b hb => ⟨by have := hb.1; omega, by have := hb.2; omega⟩⟩

def TVS (h : Nat) (c0 c1 c2 c3 : Value) (W : World) : Prop := W.cell? ⟨h, 0, none⟩ = some c0 ∧ W.cell? ⟨h, 1, none⟩ = some c1 ∧ W.cell? ⟨h, 2, none⟩ = some c2 ∧ W.cell? ⟨h, 3, none⟩ = some c3

set_option maxRecDepth 100000 in
set_option maxHeartbeats 8000000 in
theorem toManagers_calls {l : List Mgr} {A : Option Addr} {c : Nat} {w : World} (h : MgsAt (Old w) w l A c) (hn : (namesM l).Nodup) (hok : TameM l) (h38 : ∀ m ∈ l, m.set.length ≤ N38) : Calls Tryz.prog 84 #[.slice A l.length c] w
  (fun en w' => ∃ r, en = .returned (.map (some r)) ∧ ManAt (Fr w.heap.size w') w' l r ∧ Below w.heap.size w w') := by
 obtain ⟨h1, h2, h3, xs, h4, h5⟩ := h
 have h1' : l.length * 64 ≤ 140737488351232 := h1
 have H7 := hide (And.intro h4 (And.intro h5 (And.intro hn (And.intro hok h38))))
 clear h1 h4 h5 hn hok h38
 have hmm := @run_makeMap Tryz.prog
 go_enter Tryz.func84, Tryz.ntmps84
 go_wp2_with fail
 go_loopw [9] (fun s9 W => w.heap.size < W.heap.size ∧ TVInv w l s9 W) (fun s _ => l.length - (intOf s).toNat)
 case atStart => exact ⟨by simp, 0, fun _ => .nilIface, rfl, Nat.zero_le _, MapIs.made w _, by simp, (Below.refl _ _).alloc (Nat.le_refl _) _⟩
 case round =>
  obtain ⟨hsz, k, val, rfl, hk, hmap, hall, hb⟩ := hrel
  by_cases hlt : k < l.length
  ·have hki0 : (0 : Int) ≤ (k : Int) := Int.natCast_nonneg _
   have hki1 : (k : Int) < (l.length : Int) := by omega
   have hx := H7.out.2.1.at_ hlt
   have hmem := List.getElem_mem hlt
   obtain ⟨fx, hfx⟩ : ∃ fx, l[k] = fx := ⟨_, rfl⟩
   rw [hfx] at hx hmem
   generalize hcs : (xs.drop (k * 4)).take 4 = fcs at hx
   obtain ⟨PA, pc, rfl, hp⟩ := hx
   obtain ⟨rb, ro, rfl, hF, hc⟩ := rown_at H7.out.1 hlt hcs
   have ec := (bcell hb).1
   have q0 := (ec _ _ hF).trans (hc 0 _ rfl)
   have q1 := (ec _ _ hF).trans (hc 1 _ rfl)
   have q2 := (ec _ _ hF).trans (hc 2 _ rfl)
   have q3 := (ec _ _ hF).trans (hc 3 _ rfl)
   rw [Nat.add_zero] at q0
   have hrb : rb < w.heap.size := hF
   have HTs := hide fun (W : World) (hb : Below w.heap.size w W) => toSet_calls (hp.at_ hb) (H7.out.2.2.2.1 fx hmem) (H7.out.2.2.2.2 fx hmem)
   have Hq := hide (And.intro hmap (And.intro hall (And.intro hb hfx)))
   have hwe : w.heap.size ≤ wr.heap.size := hb.size
   clear hmap hall hb hp hcs hc ec hF hmem
   obtain ⟨wo, hwo⟩ : ∃ W, W = wr := ⟨_, rfl⟩
   subst hwo
   obtain ⟨pn, hpn⟩ : ∃ pn, fx.set.length = pn := ⟨_, rfl⟩
   rw [hpn] at HTs q3
   clear hpn hfx
   go_upto_region 5 with fail
   have hbA : Below wo.heap.size wo (wo.alloc (.cells #[.string fx.name, .string fx.ver, .bool fx.app, .slice PA pn pc] 51)) := (Below.refl _ _).alloc (Nat.le_refl _) _
   have hX := Bk.new wo 51 #[.string fx.name, .string fx.ver, .bool fx.app, .slice PA pn pc]
   clear q0 q1 q2 q3
   generalize hw1 : World.alloc wo _ = w1 at hbA hX ⊢
   have hsz1 : w1.heap.size = wo.heap.size + 1 := by rw [← hw1, World.size_alloc]
   have x0 := hX.cell 0
   have x1 := hX.cell 1
   have x2 := hX.cell 2
   have x3 := hX.cell 3
   simp at x0 x1 x2 x3
   obtain ⟨S, hS⟩ : ∃ S, TVS wo.heap.size (.string fx.name) (.string fx.ver) (.bool fx.app) (.slice PA pn pc) = S := ⟨_, rfl⟩
   have hS0 : S w1.drew := by rw [← hS]; exact ⟨x0, x1, x2, x3⟩
   have H1 := hide hbA
   clear hw1 hbA hX
   refine wp_region_head 11 S (by rfl) (by kernel_rfl) ?_
   have hX := hide (show ∀ W : World, S W → TVS wo.heap.size (.string fx.name) (.string fx.ver) (.bool fx.app) (.slice PA pn pc) W from fun W hSw => by rw [← hS] at hSw; exact hSw)
   iterate 5
    refine HT.nx (v := ?_) rfl (by kernel_rfl) (fun _ _ _ h => h) (Or.inl ⟨by rfl, ?_⟩) ‹_› ?_
    rotate_left
    ·intro W hSw; obtain ⟨s0, s1, s2, s3⟩ := hX.out W hSw; go_simp; with_reducible rfl
    simp only [Act.put, zzA, zzZ, zzS]
   refine HT.take 6 (v := ?_) rfl (by kernel_rfl) (fun _ _ _ h => h) (Or.inl ⟨by rfl, ?_⟩) ‹_› ?_
   rotate_left
   ·intro W hSw; obtain ⟨s0, s1, s2, s3⟩ := hX.out W hSw; go_simp; with_reducible rfl
   simp only [Act.put, zzA, zzZ, zzS]
   refine HT.take 7 (v := ?_) rfl (by kernel_rfl) (fun _ _ _ h => h) (Or.inl ⟨by rfl, ?_⟩) ‹_› ?_
   rotate_left
   ·intro W hSw; obtain ⟨s0, s1, s2, s3⟩ := hX.out W hSw; go_simp; with_reducible rfl
   simp only [Act.put, zzA, zzZ, zzS]
   refine HT.take 8 (v := ?_) rfl (by kernel_rfl) (fun _ _ _ h => h) (Or.inl ⟨by rfl, ?_⟩) ‹_› ?_
   rotate_left
   ·intro W hSw; obtain ⟨s0, s1, s2, s3⟩ := hX.out W hSw; go_simp; with_reducible rfl
   simp only [Act.put, zzA, zzZ, zzS]
   refine HT.take 9 (v := ?_) rfl (by kernel_rfl) (fun _ _ _ h => h) (Or.inl ⟨by rfl, ?_⟩) ‹_› ?_
   rotate_left
   ·intro W hSw; obtain ⟨s0, s1, s2, s3⟩ := hX.out W hSw; go_simp; with_reducible rfl
   simp only [Act.put, zzA, zzZ, zzS]
   clear hX
   refine HT.one 5 rfl (by kernel_rfl) (by rfl) (fun K hK => ?_)
   go_simp
   have hbw1 : Below w.heap.size w w1.drew := below_drew (Hq.out.2.2.1.trans (H1.out.mono Hq.out.2.2.1.size))
   refine (HTs.out _ hbw1).mono ?_
   intro en w2 hg
   obtain ⟨rfl, hsr, hb2⟩ := hg.read
   have hb2' : Below w1.heap.size w1 w2 := below_drew' hb2
   have hbo2 : Below wo.heap.size wo w2 := H1.out.trans (hb2'.mono (by omega))
   have hS2 : S w2 := by rw [← hS]; exact ⟨((bcell hb2').1 _ _ (by omega)).trans x0, ((bcell hb2').1 _ _ (by omega)).trans x1, ((bcell hb2').1 _ _ (by omega)).trans x2, ((bcell hb2').1 _ _ (by omega)).trans x3⟩
   rw [show w1.drew.heap.size = wo.heap.size + 1 from hsz1] at hsr
   have H2 := hide (And.intro (hsr.mono fun b hb => (⟨by have h1 := hb.1; omega, hb.2⟩ : Fr wo.heap.size w2 b)) hbo2)
   clear hsr hb2 hb2' hbo2 HTs H1 hbw1 hg
   go_simp
   refine hK.out _ _ hS2 ?_
   clear hK K
   refine HT.one 10 rfl (by kernel_rfl) (by rfl) (fun K hK => ?_)
   go_simp
   refine (newVersioned_calls _ _ _ _).mono ?_
   rintro en w2' ⟨rfl, e2⟩
   subst w2'
   refine hK.out _ _ hS2 ?_
   clear hK K
   refine HT.done (by kernel_rfl) ?_
   simp only [List.drop_succ_cons, List.drop_zero]
   clear hS0 hS2 hS x0 x1 x2 x3
   have hmap2 : MapIs w2 w.heap.size (namesM (l.take k)) val := Hq.out.1.keep (H2.out.2.block _ hsz)
   have hmm : ∀ x, x ∈ namesM (l.take (k + 1)) ↔ x = fx.name ∨ x ∈ namesM (l.take k) := by
    intro x
    rw [List.take_succ_eq_append_getElem hlt, Hq.out.2.2.2]
    simp [namesM, or_comm]
   have hnd : (namesM (l.take (k + 1))).Nodup := by
    unfold namesM
    rw [List.map_take]
    exact (List.take_sublist _ _).nodup H7.out.2.2.1
   go_wp2_with (at_mapUpdate; go_loud (refine wpList_update_is _ rfl _ _ _ _ rfl 9 229 Tryz.underlying148 Tryz.underlying9 w.heap.size _ val rfl hmap2 fx.name _ rfl rfl _ hnd hmm ?_))
   intro w3 hmap3 hg3 hsz3
   have Hst := hide (And.intro (show w.heap.size < w3.heap.size by have := H2.out.2.size; omega) (tv_step H7.out.2.2.1 hlt Hq.out.2.2.2 Hq.out.2.1 Hq.out.2.2.1 hsz H2.out.2 rfl H2.out.1 hg3 hmap3 (.int .i64 ((k + 1 : Nat) : Int)) rfl))
   clear hmap2 hmm hnd hmap3 hg3 hsz3 H2 Hq
   go_wp2_with fail
   exact ⟨Hst.out, by simp [intOf]; omega⟩
  ·have hke : k = l.length := by omega
   subst hke
   have hki1 : ¬ ((l.length : Nat) : Int) < (l.length : Int) := by omega
   rw [List.take_of_length_le (Nat.le_refl _)] at hmap hall
   have H3 := hide (And.intro hb (show ManAt (Fr w.heap.size wr) wr l w.heap.size from ⟨⟨Nat.le_refl _, hsz⟩, val, hmap, fun m hm => (hall m hm).mono fun b hb => ⟨by have := hb.1; omega, hb.2⟩⟩))
   clear hb hmap hall
   go_wp2
   go_ret
   exact ⟨w.heap.size, rfl, H3.out.2, H3.out.1⟩

end Go.Proofs.YtbicoknghdgahaaGreat
