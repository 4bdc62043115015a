/- Parts: PathP, SpecPath, SetP, SpecWalk, SpecWalk2, LaidP. -/
import Derived.Test.YtbicoknghdgahaaGreatKB09
import Derived.Test.YtbicoknghdgahaaGreatKB12
import Derived.Test.YtbicoknghdgahaaGreatKD05
set_option linter.unusedVariables false
set_option linter.unusedSimpArgs false
namespace Go.Proofs.YtbicoknghdgahaaGreat

theorem peqv_iff : ∀ {p q : List E}, POk p → POk q → (peqv p q = true ↔ pcmp p q = 0)
 | [], [], _, _ => by simp [pcmp, peqv]
 | [], _ :: _, _, _ => by simp [pcmp, peqv]
 | _ :: _, [], _, _ => by simp [pcmp, peqv]
 | a :: p, b :: q, h1, h2 => by
  have e := E.eqv_iff (h1 a (by simp)) (h2 b (by simp))
  have e2 := peqv_iff (p := p) (q := q) (fun t ht => h1 t (by simp [ht])) (fun t ht => h2 t (by simp [ht]))
  rw [pcmp, peqv, Bool.and_eq_true, e, e2]
  by_cases h : E.cmp a b = 0
  ·rw [if_pos h]; simp [h]
  ·rw [if_neg h]; simp [h]
end Go.Proofs.YtbicoknghdgahaaGreat

namespace Go.Proofs.YtbicoknghdgahaaGreat
open Go.RowKit
attribute [local go_sem] run_store_float

def ppre (p q : List E) : Bool := peqv (p.take q.length) q
theorem ppre_long {p q : List E} (h : p.length < q.length) : ppre p q = false := peqv_len (by rw [List.length_take]; omega)
theorem ppre_same {p q : List E} (h : p.length = q.length) : ppre p q = peqv p q := by
 unfold ppre
 rw [List.take_of_length_le (by omega)]

set_option maxRecDepth 100000 in
set_option maxHeartbeats 4000000 in
theorem hasPrefix_calls {l m : List REl} {A B : Option Addr} {c d : Nat} {w : World} (h : PathAt (Old w) w l A c) (h' : PathAt (Old w) w m B d) :
  Calls Tryz.prog 56 #[.slice A l.length c, .slice B m.length d] w (EqPost (ppre (pel l) (pel m)) w) := by
 obtain ⟨h1, h2, h3, xs, h4, h5⟩ := h
 obtain ⟨h1', h2', h3', ys, h4', h5'⟩ := h'
 have hl47 : l.length * 168 ≤ 140737488351232 := h1
 have hm47 : m.length * 168 ≤ 140737488351232 := h1'
 have H7 := hide (And.intro h4 (And.intro h5 (And.intro h4' h5')))
 by_cases hlen : l.length < m.length
 ·rw [ppre_long (by rw [pel_length, pel_length]; exact hlen)]
  have hli : (l.length : Int) < (m.length : Int) := by omega
  clear h1 h4 h5 h1' h4' h5'
  go_enter Tryz.func56, Tryz.ntmps56
  go_wp2
  go_ret
  exact ⟨rfl, Below.refl _ _⟩
 ·have hli : ¬ (l.length : Int) < (m.length : Int) := by omega
  obtain ⟨r, hr⟩ : ∃ r, ppre (pel l) (pel m) = r := ⟨_, rfl⟩
  rw [hr]
  unfold ppre at hr
  rw [pel_length] at hr
  have Hr := hide hr
  have Hlen := hide hlen
  clear h1 h4 h5 h1' h4' h5' hr hlen h2 h2' h3 h3'
  go_enter Tryz.func56, Tryz.ntmps56
  go_wp2_with fail
  go_loopw [13] (fun s W => PQInv w ((pel l).take m.length) (pel m) s W) (fun s _ => m.length - (intOf s).toNat)
  case atStart => exact ⟨0, rfl, Nat.zero_le _, by simp, Below.refl _ _⟩
  case round =>
   obtain ⟨k, rfl, hk1, heq, hb⟩ := hrel
   have hki0 : (0 : Int) ≤ (k : Int) := Int.natCast_nonneg _
   by_cases hp : k < m.length
   ·have hle := Hlen.out
    have hp1 : k < l.length := by omega
    have hpi : (k : Int) < (m.length : Int) := by omega
    have hpl : (k : Int) < (l.length : Int) := by omega
    have hrd := peqv_round heq (by rw [List.length_take, pel_length]; omega) (by rw [pel_length]; exact hp)
    have e1 : ((pel l).take m.length)[k]'(by rw [List.length_take, pel_length]; omega) = (l[k]).elem := by rw [List.getElem_take]; simp [pel]
    have e2 : (pel m)[k]'(by rw [pel_length]; exact hp) = (m[k]).elem := by simp [pel]
    rw [e1, e2] at hrd
    clear e1 e2
    have hx := H7.out.2.1.at_ hp1
    have hy := H7.out.2.2.2.at_ hp
    generalize l[k] = x at *
    generalize m[k] = y at *
    generalize hcs : (xs.drop (k * 11)).take 11 = fcs at hx
    generalize hds : (ys.drop (k * 11)).take 11 = gcs at hy
    obtain ⟨a0, a1, a2, a3, a4, a5, a6, a7, a8, a9, aa, ab, ac, ad, ae, af, ag, ah, ai, rfl⟩ := hx.form
    obtain ⟨b0, b1, b2, b3, b4, b5, b6, b7, b8, b9, ba, bb, bc, bd, be, bf, bg, bh, bi, rfl⟩ := hy.form
    obtain ⟨rb, ro, rfl, hF, hc⟩ := rown_at H7.out.1 hp1 hcs
    obtain ⟨sb, so, rfl, hG, hd⟩ := rown_at H7.out.2.2.1 hp hds
    have ec := (bcell hb).1
    have m0 := (ec _ _ hF).trans (hc 0 _ rfl)
    have m1 := (ec _ _ hF).trans (hc 1 _ rfl)
    have m2 := (ec _ _ hF).trans (hc 2 _ rfl)
    have m3 := (ec _ _ hF).trans (hc 3 _ rfl)
    have m4 := (ec _ _ hF).trans (hc 4 _ rfl)
    have m5 := (ec _ _ hF).trans (hc 5 _ rfl)
    have m6 := (ec _ _ hF).trans (hc 6 _ rfl)
    have m7 := (ec _ _ hF).trans (hc 7 _ rfl)
    have m8 := (ec _ _ hF).trans (hc 8 _ rfl)
    have m9 := (ec _ _ hF).trans (hc 9 _ rfl)
    have m10 := (ec _ _ hF).trans (hc 10 _ rfl)
    have n0 := (ec _ _ hG).trans (hd 0 _ rfl)
    have n1 := (ec _ _ hG).trans (hd 1 _ rfl)
    have n2 := (ec _ _ hG).trans (hd 2 _ rfl)
    have n3 := (ec _ _ hG).trans (hd 3 _ rfl)
    have n4 := (ec _ _ hG).trans (hd 4 _ rfl)
    have n5 := (ec _ _ hG).trans (hd 5 _ rfl)
    have n6 := (ec _ _ hG).trans (hd 6 _ rfl)
    have n7 := (ec _ _ hG).trans (hd 7 _ rfl)
    have n8 := (ec _ _ hG).trans (hd 8 _ rfl)
    have n9 := (ec _ _ hG).trans (hd 9 _ rfl)
    have n10 := (ec _ _ hG).trans (hd 10 _ rfl)
    rw [Nat.add_zero] at m0 n0
    obtain ⟨v, hv⟩ : ∃ v, E.eqv x.elem y.elem = v := ⟨_, rfl⟩
    have HC := hide fun (W : World) (hb : Below w.heap.size w W) => specEqualElems_calls x y W _ _ (hx.at_ hb) (hy.at_ hb)
    rw [hv] at HC hrd
    rw [Hr.out] at hrd
    have Hrd := hide hrd
    have Hb := hide hb
    clear hb hx hy hcs hds hc hd ec hF hG hrd heq hv hp1 hk1 hle
    go_wp2_with fail
    go_still_tail 8, (by kernel_rfl)
    change wpList _ _ _ _ _ wr.drew
    go_wp2_with fail
    refine (HC.out wr.drew (below_drew Hb.out)).mono ?_
    rintro e w1 ⟨rfl, hb1⟩
    have H1 := hide (Hb.out.trans ((below_drew' hb1).mono Hb.out.size))
    clear hb1 m0 m1 m2 m3 m4 m5 m6 m7 m8 m9 m10 n0 n1 n2 n3 n4 n5 n6 n7 n8 n9 n10
    cases v
    ·have hs := Hrd.out.2 rfl
     subst hs
     clear Hrd HC
     go_wp2
     go_ret
     exact ⟨rfl, H1.out⟩
    ·have hs := Hrd.out.1 rfl
     have Hs := hide (Hr.out.trans hs)
     clear hs Hrd HC
     go_wp2_with fail
     exact ⟨⟨k + 1, by go_num, by rw [List.length_take, pel_length]; have := Hlen.out; omega, Hs.out, H1.out⟩, by simp [intOf]; omega⟩
   ·have hpi : ¬ (k : Int) < (m.length : Int) := by omega
    have hr1 : r = true := by
     have e1 : ((pel l).take m.length).drop k = [] := List.drop_eq_nil_of_le (by rw [List.length_take]; omega)
     have e2 : (pel m).drop k = [] := List.drop_eq_nil_of_le (by rw [pel_length]; omega)
     rw [Hr.out, e1, e2] at heq
     exact heq
    subst hr1
    have Hb := hide hb
    clear hb heq hk1
    go_wp2
    go_ret
    exact ⟨rfl, Hb.out⟩

set_option maxRecDepth 100000 in
theorem specEqualPaths_calls {l m : List REl} {A B : Option Addr} {c d : Nat} {w : World} (h : PathAt (Old w) w l A c) (h' : PathAt (Old w) w m B d) :
  Calls Tryz.prog 71 #[.slice A l.length c, .slice B m.length d] w (EqPost (peqv (pel l) (pel m)) w) := by
 have hl47 : l.length * 168 ≤ 140737488351232 := h.1
 have hm47 : m.length * 168 ≤ 140737488351232 := h'.1
 by_cases hlen : l.length = m.length
 ·have H := hide (hasPrefix_calls h h')
  rw [ppre_same (by rw [pel_length, pel_length]; exact hlen)] at H
  generalize peqv (pel l) (pel m) = r at *
  generalize l.length = n at *
  subst hlen
  clear h h'
  go_enter Tryz.func71, Tryz.ntmps71
  go_wp2_with fail
  refine H.out.mono ?_
  rintro e w1 ⟨rfl, hb1⟩
  have Hb := hide hb1
  clear hb1
  go_wp2
  go_ret
  exact ⟨rfl, Hb.out⟩
 ·rw [peqv_len (by rw [pel_length, pel_length]; exact hlen)]
  have hli : ¬ (l.length : Int) = (m.length : Int) := by omega
  have hlb : ((l.length : Int) == (m.length : Int)) = false := by simpa using hli
  clear h h'
  go_enter Tryz.func71, Tryz.ntmps71
  go_wp2
  go_ret
  exact ⟨rfl, Below.refl _ _⟩

end Go.Proofs.YtbicoknghdgahaaGreat

namespace Go.Proofs.YtbicoknghdgahaaGreat

theorem ecmp_turn (p q : List E) : ecmp q p = - ecmp p q := by
 unfold ecmp
 cases p.isEmpty <;> cases q.isEmpty <;> simp
theorem ecmp_tr (p q r : List E) : Tr (ecmp p q) (ecmp q r) (ecmp p r) := by
 unfold ecmp Tr
 cases p.isEmpty <;> cases q.isEmpty <;> cases r.isEmpty <;> simp
theorem wcmp_turn : ∀ {p q : List E}, POk p → POk q → wcmp q p = - wcmp p q
 | [], [], _, _ => by simp [wcmp]
 | [], _ :: _, _, _ => by simp [wcmp]
 | _ :: _, [], _, _ => by simp [wcmp]
 | a :: p, b :: q, h1, h2 => by
  have e := E.cmp_turn (h1 a (by simp)) (h2 b (by simp))
  have e2 := wcmp_turn (p := p) (q := q) (fun t ht => h1 t (by simp [ht])) (fun t ht => h2 t (by simp [ht]))
  rw [wcmp, wcmp, e, e2, ecmp_turn p q]
  by_cases h0 : ecmp p q = 0
  ·rw [if_pos (by omega), if_pos h0]
   by_cases h : E.cmp a b = 0
   ·rw [if_pos (by omega), if_pos h]
   ·rw [if_neg (by omega), if_neg h]
  ·rw [if_neg (by omega), if_neg h0]
theorem wcmp_tr : ∀ {x y z : List E}, POk x → POk y → POk z → Tr (wcmp x y) (wcmp y z) (wcmp x z)
 | [], [], [], _, _, _ => by simp [wcmp, Tr]
 | [], [], _ :: _, _, _, _ => by simp [wcmp, Tr]
 | [], _ :: _, [], _, _, _ => by simp [wcmp, Tr]
 | [], _ :: _, _ :: _, _, _, _ => by simp [wcmp, Tr]
 | _ :: _, [], [], _, _, _ => by simp [wcmp, Tr]
 | _ :: _, [], _ :: _, _, _, _ => by simp [wcmp, Tr]
 | _ :: _, _ :: _, [], _, _, _ => by simp [wcmp, Tr]
 | a :: x, b :: y, c :: z, h1, h2, h3 => by
  rw [wcmp, wcmp, wcmp]
  have e := wcmp_tr (x := x) (y := y) (z := z) (fun t ht => h1 t (by simp [ht])) (fun t ht => h2 t (by simp [ht])) (fun t ht => h3 t (by simp [ht]))
  exact Tr.lex (ecmp_tr x y z) fun _ _ => Tr.lex (E.cmp_tr (h1 a (by simp)) (h2 b (by simp)) (h3 c (by simp))) fun _ _ => e
theorem wcmp_ord : TOrd wcmp POk := ⟨fun h => wcmp_self h, fun h k => wcmp_turn h k, fun h k l => wcmp_tr h k l⟩
theorem ecmp_ne {p q : List E} (hp : p ≠ []) (hq : q ≠ []) : ecmp p q = 0 := by
 cases p <;> cases q <;> simp [ecmp] at hp hq ⊢
theorem wcmp_head {a b : E} {p q : List E} (hp : p ≠ []) (hq : q ≠ []) (h : E.cmp a b < 0) : wcmp (a :: p) (b :: q) < 0 := by
 rw [wcmp, ecmp_ne hp hq, if_pos rfl, if_neg (by omega)]
 exact h
theorem paths_sorted {s : St} (h : s.WF) : SortC wcmp s.paths := by
 induction h with
 | @mk m ks h1 h2 h3 h4 h5 ih =>
  rw [St.paths]
  refine List.pairwise_append.2 ⟨?_, ?_, ?_⟩
  ·rw [List.pairwise_map]
   exact h2.imp fun h => by rw [wcmp, ecmp_self, if_pos rfl, if_neg (by omega)]; exact h
  ·clear h1 h2
   induction ks with
   | nil => rw [St.pathsK]; exact List.Pairwise.nil
   | cons k ks ihk =>
    obtain ⟨e, t⟩ := k
    obtain ⟨q1, q2⟩ := List.pairwise_cons.1 h4
    rw [St.pathsK]
    refine List.pairwise_append.2 ⟨?_, ihk (fun k hk => h3 k (by simp [hk])) q2 (fun k hk => h5 k (by simp [hk])) (fun k hk => ih k (by simp [hk])), ?_⟩
    ·rw [List.pairwise_map]
     refine (ih (e, t) (by simp)).imp_of_mem fun {p q} hp hq h => ?_
     have hok := paths_ok (h5 (e, t) (by simp))
     rw [wcmp, ecmp_ne (hok p hp).2 (hok q hq).2, if_pos rfl, E.cmp_self (h3 (e, t) (by simp)), if_pos rfl]
     exact h
    ·intro p hp q hq
     obtain ⟨p', hp', rfl⟩ := List.mem_map.1 hp
     obtain ⟨k, hk, q', hq', rfl⟩ := pathsK_mem.1 hq
     exact wcmp_head (paths_ok (h5 (e, t) (by simp)) p' hp').2 (paths_ok (h5 k (by simp [hk])) q' hq').2 (q1 k hk)
  ·intro p hp q hq
   obtain ⟨e, he, rfl⟩ := List.mem_map.1 hp
   obtain ⟨k, hk, q', hq', rfl⟩ := pathsK_mem.1 hq
   have := (paths_ok (h5 k hk) q' hq').2
   rw [wcmp]
   cases q' with
   | nil => exact absurd rfl this
   | cons x q' => simp [ecmp]

end Go.Proofs.YtbicoknghdgahaaGreat

namespace Go.Proofs.YtbicoknghdgahaaGreat
open Go.RowKit
attribute [local go_sem] run_store_float

def WCInv (w : World) (p q : List E) (s : Value) (W : World) : Prop := ∃ k : Nat, s = .int .i64 (k : Int) ∧ k ≤ p.length ∧ k ≤ q.length ∧ wcmp p q = wcmp (p.drop k) (q.drop k) ∧ Below w.heap.size w W
theorem wcmp_eqv {a b : E} {p q : List E} (h : E.cmp a b = 0) : wcmp (a :: p) (b :: q) = wcmp p q := by
 rw [wcmp]
 by_cases h0 : ecmp p q = 0
 ·rw [if_pos h0, if_pos h]
 ·rw [if_neg h0]
  cases p <;> cases q <;> simp [ecmp, wcmp] at h0 ⊢
theorem wcmp_round {p q : List E} {k : Nat} (h : wcmp p q = wcmp (p.drop k) (q.drop k)) (h1 : k < p.length) (h2 : k < q.length) : (E.cmp p[k] q[k] = 0 → wcmp p q = wcmp (p.drop (k + 1)) (q.drop (k + 1))) ∧
  (¬ E.cmp p[k] q[k] = 0 → (k + 1 = p.length → ¬ k + 1 = q.length → wcmp p q = -1) ∧ (¬ k + 1 = p.length → k + 1 = q.length → wcmp p q = 1) ∧ ((k + 1 = p.length ↔ k + 1 = q.length) → wcmp p q = E.cmp p[k] q[k])) := by
 rw [h, List.drop_eq_getElem_cons h1, List.drop_eq_getElem_cons h2]
 have e1 : (p.drop (k + 1)).isEmpty = decide (k + 1 = p.length) := by rw [Bool.eq_iff_iff, List.isEmpty_iff, List.drop_eq_nil_iff, decide_eq_true_iff]; omega
 have e2 : (q.drop (k + 1)).isEmpty = decide (k + 1 = q.length) := by rw [Bool.eq_iff_iff, List.isEmpty_iff, List.drop_eq_nil_iff, decide_eq_true_iff]; omega
 have e3 : ecmp (p.drop (k + 1)) (q.drop (k + 1)) = if decide (k + 1 = p.length) = decide (k + 1 = q.length) then 0 else if decide (k + 1 = p.length) = true then -1 else 1 := by
  unfold ecmp
  rw [e1, e2]
 refine ⟨fun e => wcmp_eqv e, fun e => ⟨fun a b => ?_, fun a b => ?_, fun a => ?_⟩⟩
 ·have h0 : ecmp (p.drop (k + 1)) (q.drop (k + 1)) = -1 := by rw [e3, decide_eq_true a, decide_eq_false b]; rfl
  rw [wcmp, h0]
  rfl
 ·have h0 : ecmp (p.drop (k + 1)) (q.drop (k + 1)) = 1 := by rw [e3, decide_eq_true b, decide_eq_false a]; rfl
  rw [wcmp, h0]
  rfl
 ·have h0 : ecmp (p.drop (k + 1)) (q.drop (k + 1)) = 0 := by rw [e3, if_pos (by rw [Bool.eq_iff_iff, decide_eq_true_iff, decide_eq_true_iff]; exact a)]
  rw [wcmp, h0, if_pos rfl, if_neg e]
theorem wcmp_end {p q : List E} {k : Nat} (h : wcmp p q = wcmp (p.drop k) (q.drop k)) (h1 : k ≤ p.length) (h2 : k ≤ q.length) (h3 : k = p.length ∨ k = q.length) : wcmp p q = cmpI (p.length : Int) (q.length : Int) := by
 rw [h]
 unfold cmpI
 rcases h3 with rfl | rfl
 ·rw [List.drop_length]
  by_cases h4 : p.length < q.length
  ·rw [List.drop_eq_getElem_cons h4, wcmp, if_pos (by omega)]
  ·rw [List.drop_eq_nil_of_le (by omega), wcmp, if_neg (by omega), if_neg (by omega)]
 ·rw [List.drop_length]
  by_cases h4 : q.length < p.length
  ·rw [List.drop_eq_getElem_cons h4, wcmp, if_neg (by omega), if_pos (by omega)]
  ·rw [List.drop_eq_nil_of_le (by omega), wcmp, if_neg (by omega), if_neg (by omega)]

set_option maxRecDepth 100000 in
set_option maxHeartbeats 4000000 in
theorem walkCompare_calls {l m : List REl} {A B : Option Addr} {c d : Nat} {w : World} (h : PathAt (Old w) w l A c) (h' : PathAt (Old w) w m B d) :
  Calls Tryz.prog 130 #[.slice A l.length c, .slice B m.length d] w (CmpPost (wcmp (pel l) (pel m)) w) := by
 obtain ⟨h1, h2, h3, xs, h4, h5⟩ := h
 obtain ⟨h1', h2', h3', ys, h4', h5'⟩ := h'
 have hl47 : l.length * 168 ≤ 140737488351232 := h1
 have hm47 : m.length * 168 ≤ 140737488351232 := h1'
 have H7 := hide (And.intro h4 (And.intro h5 (And.intro h4' h5')))
 obtain ⟨r, hr⟩ : ∃ r, wcmp (pel l) (pel m) = r := ⟨_, rfl⟩
 rw [hr]
 have Hr := hide (And.intro hr (And.intro (pel_length l) (pel_length m)))
 clear h1 h4 h5 h1' h4' h5' hr
 go_enter Tryz.func130, Tryz.ntmps130
 go_wp2_with fail
 go_loopw [5] (fun s W => WCInv w (pel l) (pel m) s W) (fun s _ => l.length - (intOf s).toNat)
 case atStart => exact ⟨0, rfl, Nat.zero_le _, Nat.zero_le _, by simp, Below.refl _ _⟩
 case round =>
  obtain ⟨k, rfl, hk1, hk2, heq, hb⟩ := hrel
  rw [Hr.out.2.1] at hk1
  rw [Hr.out.2.2] at hk2
  have hki0 : (0 : Int) ≤ (k : Int) := Int.natCast_nonneg _
  by_cases hboth : k < l.length ∧ k < m.length
  ·obtain ⟨hp, hq⟩ := hboth
   have hpi : (k : Int) < (l.length : Int) := by omega
   have hqi : (k : Int) < (m.length : Int) := by omega
   have hrd := wcmp_round heq (by rw [Hr.out.2.1]; exact hp) (by rw [Hr.out.2.2]; exact hq)
   have e1 : (pel l)[k]'(by rw [Hr.out.2.1]; exact hp) = (l[k]).elem := by simp [pel]
   have e2 : (pel m)[k]'(by rw [Hr.out.2.2]; exact hq) = (m[k]).elem := by simp [pel]
   rw [e1, e2, Hr.out.1, Hr.out.2.1, Hr.out.2.2] at hrd
   clear e1 e2
   have hx := H7.out.2.1.at_ hp
   have hy := H7.out.2.2.2.at_ hq
   generalize l[k] = x at *
   generalize m[k] = y at *
   generalize hcs : (xs.drop (k * 11)).take 11 = fcs at hx
   generalize hds : (ys.drop (k * 11)).take 11 = gcs at hy
   obtain ⟨a0, a1, a2, a3, a4, a5, a6, a7, a8, a9, aa, ab, ac, ad, ae, af, ag, ah, ai, rfl⟩ := hx.form
   obtain ⟨b0, b1, b2, b3, b4, b5, b6, b7, b8, b9, ba, bb, bc, bd, be, bf, bg, bh, bi, rfl⟩ := hy.form
   obtain ⟨rb, ro, rfl, hF, hc⟩ := rown_at H7.out.1 hp hcs
   obtain ⟨sb, so, rfl, hG, hd⟩ := rown_at H7.out.2.2.1 hq hds
   have ec := (bcell hb).1
   have m0 := (ec _ _ hF).trans (hc 0 _ rfl)
   have m1 := (ec _ _ hF).trans (hc 1 _ rfl)
   have m2 := (ec _ _ hF).trans (hc 2 _ rfl)
   have m3 := (ec _ _ hF).trans (hc 3 _ rfl)
   have m4 := (ec _ _ hF).trans (hc 4 _ rfl)
   have m5 := (ec _ _ hF).trans (hc 5 _ rfl)
   have m6 := (ec _ _ hF).trans (hc 6 _ rfl)
   have m7 := (ec _ _ hF).trans (hc 7 _ rfl)
   have m8 := (ec _ _ hF).trans (hc 8 _ rfl)
   have m9 := (ec _ _ hF).trans (hc 9 _ rfl)
   have m10 := (ec _ _ hF).trans (hc 10 _ rfl)
   have n0 := (ec _ _ hG).trans (hd 0 _ rfl)
   have n1 := (ec _ _ hG).trans (hd 1 _ rfl)
   have n2 := (ec _ _ hG).trans (hd 2 _ rfl)
   have n3 := (ec _ _ hG).trans (hd 3 _ rfl)
   have n4 := (ec _ _ hG).trans (hd 4 _ rfl)
   have n5 := (ec _ _ hG).trans (hd 5 _ rfl)
   have n6 := (ec _ _ hG).trans (hd 6 _ rfl)
   have n7 := (ec _ _ hG).trans (hd 7 _ rfl)
   have n8 := (ec _ _ hG).trans (hd 8 _ rfl)
   have n9 := (ec _ _ hG).trans (hd 9 _ rfl)
   have n10 := (ec _ _ hG).trans (hd 10 _ rfl)
   rw [Nat.add_zero] at m0 n0
   obtain ⟨v, hv⟩ : ∃ v, E.cmp x.elem y.elem = v := ⟨_, rfl⟩
   have HC := hide fun (W : World) (hb : Below w.heap.size w W) => specCompareElems_calls x y W _ _ (hx.at_ hb) (hy.at_ hb)
   rw [hv] at HC hrd
   have Hrd := hide hrd
   have Hb := hide hb
   clear hb hx hy hcs hds hc hd ec hF hG hrd heq hv hk1 hk2
   go_wp2_with fail
   go_still_tail 8, (by kernel_rfl)
   change wpList _ _ _ _ _ wr.drew
   go_wp2_with fail
   refine (HC.out wr.drew (below_drew Hb.out)).mono ?_
   rintro e w1 ⟨rfl, hb1⟩
   have H1 := hide (Hb.out.trans ((below_drew' hb1).mono Hb.out.size))
   clear hb1 m0 m1 m2 m3 m4 m5 m6 m7 m8 m9 m10 n0 n1 n2 n3 n4 n5 n6 n7 n8 n9 n10
   by_cases hv0 : v = 0
   ·have hs := Hrd.out.1 hv0
    have Hs := hide (Hr.out.1.trans hs)
    clear hs Hrd HC
    subst hv0
    go_wp2_with fail
    exact ⟨⟨k + 1, by go_num, by rw [Hr.out.2.1]; omega, by rw [Hr.out.2.2]; omega, Hs.out, H1.out⟩, by simp [intOf]; omega⟩
   ·have hvb : (v == 0) = false := beq_eq_false_iff_ne.2 hv0
    have hs := Hrd.out.2 hv0
    clear Hrd HC
    by_cases ea : k + 1 = l.length
    ·have ea1 : (k : Int) = (l.length : Int) - 1 := by omega
     by_cases eb : k + 1 = m.length
     ·have eb1 : (k : Int) = (m.length : Int) - 1 := by omega
      have hr2 := hs.2.2 ⟨fun _ => eb, fun _ => ea⟩
      have f1 : ((k : Int) == (l.length : Int) - 1) = true := beq_iff_eq.2 ea1
      have f2 : ((k : Int) == (m.length : Int) - 1) = true := beq_iff_eq.2 eb1
      subst hr2
      have Hf := hide (And.intro ea1 eb1)
      clear hs ea1 eb1 ea eb
      go_wp2
      go_ret
      exact ⟨rfl, H1.out⟩
     ·have eb1 : ¬ (k : Int) = (m.length : Int) - 1 := by omega
      have hr2 := hs.1 ea eb
      have f1 : ((k : Int) == (l.length : Int) - 1) = true := beq_iff_eq.2 ea1
      have f2 : ((k : Int) == (m.length : Int) - 1) = false := beq_eq_false_iff_ne.2 eb1
      subst hr2
      clear hs ea1 ea eb
      go_wp2
      go_ret
      exact ⟨rfl, H1.out⟩
    ·have ea1 : ¬ (k : Int) = (l.length : Int) - 1 := by omega
     by_cases eb : k + 1 = m.length
     ·have eb1 : (k : Int) = (m.length : Int) - 1 := by omega
      have hr2 := hs.2.1 ea eb
      have f1 : ((k : Int) == (l.length : Int) - 1) = false := beq_eq_false_iff_ne.2 ea1
      have f2 : ((k : Int) == (m.length : Int) - 1) = true := beq_iff_eq.2 eb1
      subst hr2
      clear hs eb1 ea eb
      go_wp2
      go_ret
      exact ⟨rfl, H1.out⟩
     ·have eb1 : ¬ (k : Int) = (m.length : Int) - 1 := by omega
      have hr2 := hs.2.2 ⟨fun h => absurd h ea, fun h => absurd h eb⟩
      have f1 : ((k : Int) == (l.length : Int) - 1) = false := beq_eq_false_iff_ne.2 ea1
      have f2 : ((k : Int) == (m.length : Int) - 1) = false := beq_eq_false_iff_ne.2 eb1
      subst hr2
      clear hs ea eb
      go_wp2
      go_ret
      exact ⟨rfl, H1.out⟩
  ·have hce := wcmp_end heq (by rw [Hr.out.2.1]; exact hk1) (by rw [Hr.out.2.2]; exact hk2) (by rw [Hr.out.2.1, Hr.out.2.2]; omega)
   rw [Hr.out.1, Hr.out.2.1, Hr.out.2.2] at hce
   have HI := hide fun (W : World) => (show Calls Tryz.prog 176 #[.int .i64 (l.length : Int), .int .i64 (m.length : Int)] W fun e w' => e = .returned (.int .i64 r) ∧ W = w' from by rw [hce]; exact specInts_calls _ _ W)
   have Hb := hide hb
   have hns : ¬ (k < l.length ∧ k < m.length) := hboth
   clear hb heq hce hboth
   by_cases hp : k < l.length
   ·have hpi : (k : Int) < (l.length : Int) := by omega
    have hqi : ¬ (k : Int) < (m.length : Int) := by omega
    clear hns
    go_wp2_with fail
    refine (HI.out _).mono ?_
    rintro e w2 ⟨rfl, rfl⟩
    go_wp2
    go_ret
    exact ⟨rfl, Hb.out⟩
   ·have hpi : ¬ (k : Int) < (l.length : Int) := by omega
    clear hns
    go_wp2_with fail
    refine (HI.out _).mono ?_
    rintro e w2 ⟨rfl, rfl⟩
    go_wp2
    go_ret
    exact ⟨rfl, Hb.out⟩

set_option maxRecDepth 100000 in
set_option maxHeartbeats 4000000 in
theorem place_calls {ls : List (List REl)} {l : List REl} {A B : Option Addr} {c d : Nat} {w : World} (h : PathsAt (Old w) w ls A c) (h' : PathAt (Old w) w l B d) (hok : ∀ p ∈ pelsP ls, POk p) (hp : POk (pel l)) (hs : SortC wcmp (pelsP ls)) :
  Calls Tryz.prog 77 #[.slice A ls.length c, .slice B l.length d] w fun e w' => e = .returned (.tuple #[.int .i64 (cntC wcmp (pel l) (pelsP ls) : Nat), .bool (hasC wcmp (pel l) (pelsP ls))]) ∧ Below w.heap.size w w' := by
 obtain ⟨h1, h2, h3, xs, h4, h5⟩ := h
 have hls : ls.length ≤ 8796093022208 := by unfold R47 at h1; omega
 have hpl : (pelsP ls).length = ls.length := List.length_map _
 have hcl := cntC_le (c := wcmp) (pel l) (pelsP ls)
 rw [hpl] at hcl
 have Hpl := hide hpl
 have Hlt := hide (cntC_lt wcmp_ord hp hok hs)
 have Hhas := hide (show hasC wcmp (pel l) (pelsP ls) = (match (pelsP ls)[cntC wcmp (pel l) (pelsP ls)]? with | some a => decide (wcmp a (pel l) = 0) | none => false) from by unfold hasC; cases (pelsP ls)[cntC wcmp (pel l) (pelsP ls)]? <;> rfl)
 have Hat := hide fun (i : Nat) (hi : i < ls.length) => (show (pelsP ls)[i]? = some (pel ls[i]) from by simp [pelsP, hi])
 generalize hasC wcmp (pel l) (pelsP ls) = has at *
 generalize hcc : cntC wcmp (pel l) (pelsP ls) = cnt at *
 have H7 := hide (And.intro h4 (And.intro h5 h'))
 clear h1 h4 h5 h' hok hp hs hpl hcc h2 h3
 generalize pelsP ls = ps at *
 go_enter Tryz.func77, Tryz.ntmps77
 go_wp2_with fail
 go_loopw [6, 7] (fun lo hi W => ∃ a b : Nat, a ≤ cnt ∧ cnt ≤ b ∧ b ≤ ls.length ∧ lo = .int .i64 (a : Int) ∧ hi = .int .i64 (b : Int) ∧ Below w.heap.size w W) (fun lo hi _ => (intOf hi).toNat - (intOf lo).toNat)
 case atStart => exact ⟨0, ls.length, Nat.zero_le _, hcl, Nat.le_refl _, rfl, rfl, Below.refl _ _⟩
 case round =>
  obtain ⟨a, b, ha, hb2, hbl, rfl, rfl, hb⟩ := hrel
  by_cases hab : a < b
  ·obtain ⟨mm, hm, hm1, hm2⟩ : ∃ m : Nat, (a : Int) + ((b : Int) - (a : Int)) / 2 = (m : Int) ∧ a ≤ m ∧ m < b := ⟨a + (b - a) / 2, by omega, by omega, by omega⟩
   have hml : mm < ls.length := by omega
   have hx := H7.out.2.1.at_ hml
   have hiff := Hlt.out mm _ (Hat.out mm hml)
   generalize ls[mm] = y at *
   obtain ⟨C, cd, ecs, hy⟩ := hx
   obtain ⟨rb, ro, rfl, hF, hc⟩ := rown_at H7.out.1 hml ecs
   have q0 := ((bcell hb).1 _ _ hF).trans (hc 0 _ rfl)
   rw [Nat.mul_one, Nat.add_zero] at q0
   have hrb : rb < w.heap.size := hF
   obtain ⟨v, hv⟩ : ∃ v, wcmp (pel y) (pel l) = v := ⟨_, rfl⟩
   have HC := hide (walkCompare_calls (hy.at_ hb) (H7.out.2.2.at_ hb))
   rw [hv] at HC hiff
   have hm0 : (0 : Int) ≤ (mm : Int) := Int.natCast_nonneg _
   have hmi : (mm : Int) < (ls.length : Int) := by omega
   have hab1 : (a : Int) < (b : Int) := by omega
   have Hb := hide (And.intro hb hiff)
   clear hb hy ecs hc hF hiff hv
   go_wp2_with fail
   try rw [hm]
   refine HC.out.mono ?_
   rintro e w1 ⟨rfl, hb1⟩
   have H1 := hide (Hb.out.1.trans (hb1.mono Hb.out.1.size))
   clear hb1 q0 HC
   by_cases hv0 : v < 0
   ·have hge := Hb.out.2.1 hv0
    go_wp2_with fail
    exact ⟨⟨mm + 1, b, by omega, hb2, hbl, by go_num, rfl, H1.out⟩, by simp [intOf]; omega⟩
   ·have hge : cnt ≤ mm := by
     exact Nat.le_of_not_lt fun h => hv0 (Hb.out.2.2 h)
    go_wp2_with fail
    exact ⟨⟨a, mm, ha, hge, by omega, rfl, rfl, H1.out⟩, by simp [intOf]; omega⟩
  ·have e1 : a = cnt := by omega
   subst e1
   have hai0 : (0 : Int) ≤ (a : Int) := Int.natCast_nonneg _
   have hab1 : ¬ (a : Int) < (b : Int) := by omega
   by_cases hal : a < ls.length
   ·have hali : (a : Int) < (ls.length : Int) := by omega
    have hx := H7.out.2.1.at_ hal
    have hh := Hhas.out
    rw [Hat.out a hal] at hh
    simp only at hh
    generalize ls[a] = y at *
    obtain ⟨C, cd, ecs, hy⟩ := hx
    obtain ⟨rb, ro, rfl, hF, hc⟩ := rown_at H7.out.1 hal ecs
    have q0 := ((bcell hb).1 _ _ hF).trans (hc 0 _ rfl)
    rw [Nat.mul_one, Nat.add_zero] at q0
    have hrb : rb < w.heap.size := hF
    obtain ⟨v, hv⟩ : ∃ v, wcmp (pel y) (pel l) = v := ⟨_, rfl⟩
    have HC := hide (walkCompare_calls (hy.at_ hb) (H7.out.2.2.at_ hb))
    rw [hv] at HC hh
    have Hb := hide hb
    have Hh := hide hh
    clear hb hy ecs hc hF hh hv
    go_wp2_with fail
    refine HC.out.mono ?_
    rintro e w1 ⟨rfl, hb1⟩
    have H1 := hide (Hb.out.trans (hb1.mono Hb.out.size))
    clear hb1 q0 HC
    go_wp2
    go_ret2
    exact ⟨by rw [Hh.out]; rfl, H1.out⟩
   ·have hali : ¬ (a : Int) < (ls.length : Int) := by omega
    have hh : has = false := by
     rw [Hhas.out]
     have : ps[a]? = none := by
      cases hpa : ps[a]? with
      | none => rfl
      | some y => have := (List.getElem?_eq_some_iff.1 hpa).1; rw [Hpl.out] at this; omega
     rw [this]
    subst hh
    have Hb := hide hb
    clear hb
    go_wp2
    go_ret2
    exact ⟨rfl, Hb.out⟩

end Go.Proofs.YtbicoknghdgahaaGreat

namespace Go.Proofs.YtbicoknghdgahaaGreat
open Go.RowKit
attribute [local go_sem] run_store_float

def CPInv (w : World) (p : List E) (s3 s9 : Value) (W : World) : Prop :=
 ∃ (k : Nat) (us : List Value), s9 = .int .i64 (k : Int) ∧ k ≤ p.length ∧ W.ownsRow w.heap.size 29 11 s3 k us ∧ Cells 11 (ElemAt (FrX w.heap.size W s3) W) ((p.take k).map E.toREl) us ∧ Below w.heap.size w W

set_option maxRecDepth 100000 in
set_option maxHeartbeats 4000000 in
theorem cleanPath_calls {l : List REl} {A : Option Addr} {c : Nat} {w : World} (h : PathAt (Old w) w l A c) : Calls Tryz.prog 78 #[.slice A l.length c] w (GivesEls ((pel l).map E.toREl) w) := by
 obtain ⟨h1, h2, h3, xs, h4, h5⟩ := h
 have h1' : l.length * 168 ≤ 140737488351232 := h1
 obtain ⟨i9, hi9, hz9, hs9, hb9⟩ := info_parts elem_info
 have H7 := hide (And.intro h4 h5)
 have Hpl := hide (pel_length l)
 clear h1 h4 h5
 go_enter Tryz.func78, Tryz.ntmps78
 go_wp2_with (at_make; refine wpList_make_own _ rfl _ _ 22 rfl w.heap.size 29 i9 _ 11 Tryz.underlying22 hi9 hz9 hs9 _ _ _ l.length rfl rfl rfl ?b2 ?b3 ?b4 ?_)
 case b2 => rw [hb9]; omega
 case b3 => unfold maxLen; omega
 case b4 => simp
 intro w0 hown0 hgrow0
 have hb0 : Below w.heap.size w w0 := (Below.refl _ _).grown hgrow0 (by simp) (fun k h => by cases h)
 have H0 := hide (And.intro hb0 hown0)
 clear hgrow0 hb0 hown0
 go_wp2_with fail
 go_loopw [3, 11] (fun s3 s9 W => CPInv w (pel l) s3 s9 W) (fun _ s _ => l.length - (intOf s).toNat)
 case atStart => exact ⟨0, [], rfl, Nat.zero_le _, H0.out.2, Cells.nil_, H0.out.1⟩
 case round =>
  obtain ⟨k, us, rfl, hk, hown, hus, hb⟩ := hrel
  rw [Hpl.out] at hk
  by_cases hlt : k < l.length
  ·have hki0 : (0 : Int) ≤ (k : Int) := Int.natCast_nonneg _
   have hki1 : (k : Int) < (l.length : Int) := by omega
   have hx := H7.out.2.at_ hlt
   have hsn : ((pel l).take (k + 1)).map E.toREl = ((pel l).take k).map E.toREl ++ [(l[k]).elem.toREl] := by rw [List.take_succ_eq_append_getElem (by rw [Hpl.out]; exact hlt)]; simp [pel]
   generalize l[k] = fx at *
   generalize hcs : (xs.drop (k * 11)).take 11 = fcs at hx
   obtain ⟨a0, a1, a2, a3, a4, a5, a6, a7, a8, a9, aa, ab, ac, ad, ae, af, ag, ah, ai, rfl⟩ := hx.form
   obtain ⟨rb, ro, rfl, hF, hc⟩ := rown_at H7.out.1 hlt hcs
   have ec := (bcell hb).1
   have m0 := (ec _ _ hF).trans (hc 0 _ rfl)
   have m1 := (ec _ _ hF).trans (hc 1 _ rfl)
   have m2 := (ec _ _ hF).trans (hc 2 _ rfl)
   have m3 := (ec _ _ hF).trans (hc 3 _ rfl)
   have m4 := (ec _ _ hF).trans (hc 4 _ rfl)
   have m5 := (ec _ _ hF).trans (hc 5 _ rfl)
   have m6 := (ec _ _ hF).trans (hc 6 _ rfl)
   have m7 := (ec _ _ hF).trans (hc 7 _ rfl)
   have m8 := (ec _ _ hF).trans (hc 8 _ rfl)
   have m9 := (ec _ _ hF).trans (hc 9 _ rfl)
   have m10 := (ec _ _ hF).trans (hc 10 _ rfl)
   rw [Nat.add_zero] at m0
   have hrb : rb < w.heap.size := hF
   have HE := hide fun (W : World) (hb : Below w.heap.size w W) => cleanElem_calls fx W _ (hx.at_ hb)
   have Hq := hide (And.intro hown (And.intro hus (And.intro hb hsn)))
   clear hown hus hb hsn hx hcs hc ec hF
   go_wp2_with fail
   have hbA : Below wr.heap.size wr (wr.alloc (.cells #[.int .i64 a0, .string a1, .slice a2 a3 a4, .slice a5 a6 a7, .int .i64 a8, .int .i64 a9, .float .f64 aa, .string ab, .slice ac ad ae, .slice af ag ah, .int .i64 ai] 29)) := (Below.refl _ _).alloc (Nat.le_refl _) _
   have hbw := Hq.out.2.2.1.trans (hbA.mono Hq.out.2.2.1.size)
   refine (HE.out _ hbw).mono ?_
   rintro e w1 ⟨ps, rfl, hp, hb1⟩
   obtain ⟨e0, e1, e2, e3, e4, e5, e6, e7, e8, e9, ea, eb, ec', ed, ee, ef, eg, eh, ei, rfl⟩ := hp.form
   have hp' : ElemAt (Fr wr.heap.size w1) w1 fx.elem.toREl [.int .i64 e0, .string e1, .slice e2 e3 e4, .slice e5 e6 e7, .int .i64 e8, .int .i64 e9, .float .f64 ea, .string eb, .slice ec' ed ee, .slice ef eg eh, .int .i64 ei] := hp.mono fun b hb => ⟨by have := hb.1; rw [World.size_alloc] at this; omega, hb.2⟩
   have hb1' : Below wr.heap.size wr w1 := hbA.trans (hb1.mono hbA.size)
   have H1 := hide (And.intro hp' hb1')
   have hs0 : w.heap.size ≤ w1.heap.size := (Hq.out.2.2.1.trans (hb1'.mono Hq.out.2.2.1.size)).size
   clear hp hp' hb1 hb1' hbA hbw m0 m1 m2 m3 m4 m5 m6 m7 m8 m9 m10 HE
   obtain ⟨oA, oc, rfl, _, _⟩ := own_form Hq.out.1
   go_wp2_with (at_builtin; go_loud (refine wpList_append_row _ rfl (.tmp 15) (.tmp 18) 22 rfl w.heap.size 29 i9 _ 11 168 Tryz.underlying22 hi9 hz9 hs9 hb9 rfl (by omega) _ k us rfl ((ownsRow_below Hq.out.1 H1.out.2 (Nat.le_refl _)).alloc _) (fun _ => True) (some ⟨w1.heap.size, 0, none⟩) 1 1 [.int .i64 e0, .string e1, .slice e2 e3 e4, .slice e5 e6 e7, .int .i64 e8, .int .i64 e9, .float .f64 ea, .string eb, .slice ec' ed ee, .slice ef eg eh, .int .i64 ei] rfl (Row.of_bkp (Bk.new w1 29 ([.int .i64 e0, .string e1, .slice e2 e3 e4, .slice e5 e6 e7, .int .i64 e8, .int .i64 e9, .float .f64 ea, .string eb, .slice ec' ed ee, .slice ef eg eh, .int .i64 ei] : List Value).toArray) rfl trivial) (by simp [Value.oneCell']) (by omega) (by omega) (by rw [World.size_alloc]; omega) ?_))
   intro out' w2 hown2 hg2 hat2
   have hcs := cells_stepp (Q := fun F w a cs => ElemAt F w a cs) (a := fx.elem.toREl) (fun h k => h.keeps k) (fun h k => h.mono k) Hq.out.1 Hq.out.2.1 Hq.out.2.2.1.size H1.out.1 rfl H1.out.2 hg2 (by rw [World.size_alloc]; exact hat2)
   have hlo := Hq.out.1.lt
   have hbf : Below w.heap.size w w2 := ((Hq.out.2.2.1.trans (H1.out.2.mono Hq.out.2.2.1.size)).alloc hs0 _).grown hg2 (by rw [World.size_alloc]; omega) fun k e => (hlo k e).1
   have Hfin := hide (And.intro hown2 (And.intro hcs (And.intro hbf Hq.out.2.2.2)))
   obtain ⟨nA, nc, rfl, _, _⟩ := own_form hown2
   clear hown2 hg2 hat2 hcs hlo hbf H1 Hq hs0
   go_wp2_with fail
   exact ⟨⟨k + 1, _, by go_num, by rw [Hpl.out]; omega, Hfin.out.1, by rw [Hfin.out.2.2.2]; exact Hfin.out.2.1.1, Hfin.out.2.2.1⟩, by simp [intOf]; omega⟩
  ·have hke : k = l.length := by omega
   subst hke
   have hki1 : ¬ ((l.length : Nat) : Int) < (l.length : Int) := by omega
   rw [List.take_of_length_le (by rw [Hpl.out]; omega)] at hus
   obtain ⟨oA, oc, rfl, hc1, hc2⟩ := own_form hown
   have hlt := hown.lt
   have hlm : ((pel l).map E.toREl).length = l.length := by rw [List.length_map, Hpl.out]
   have hfin : PathAt (Fr w.heap.size wr) wr ((pel l).map E.toREl) oA oc := ⟨by rw [hlm]; unfold R47; omega, by rw [hlm]; exact hc1, hc2, us, by rw [hlm]; exact Row.of_own hown hlt, hus.mono fun a cs h => h.mono fun b hb => ⟨hb.1, hb.2.1⟩⟩
   have H3 := hide (And.intro hb hfin)
   have Hlm := hide hlm
   clear hb hown hus hlt hc1 hc2 hfin hlm
   go_wp2
   go_ret
   exact ⟨oA, oc, by rw [Hlm.out]; rfl, H3.out.2, H3.out.1⟩

def peqvs : List (List E) → List (List E) → Bool
 | [], [] => true
 | a :: p, b :: q => peqv a b && peqvs p q
 | _, _ => false
theorem peqvs_len : ∀ {p q : List (List E)}, p.length ≠ q.length → peqvs p q = false
 | [], [], h => absurd rfl h
 | [], _ :: _, _ => rfl
 | _ :: _, [], _ => rfl
 | a :: p, b :: q, h => by rw [peqvs, peqvs_len (fun e => h (by simp [e])), Bool.and_false]
theorem peqvs_round {p q : List (List E)} {k : Nat} (h : peqvs p q = peqvs (p.drop k) (q.drop k)) (h1 : k < p.length) (h2 : k < q.length) : (peqv p[k] q[k] = true → peqvs p q = peqvs (p.drop (k + 1)) (q.drop (k + 1))) ∧ (peqv p[k] q[k] = false → peqvs p q = false) := by
 rw [h, List.drop_eq_getElem_cons h1, List.drop_eq_getElem_cons h2, peqvs]
 exact ⟨fun e => by rw [e, Bool.true_and], fun e => by rw [e, Bool.false_and]⟩
theorem peqvs_alike : ∀ {p q : List (List E)}, (∀ x ∈ p, POk x) → (∀ x ∈ q, POk x) → (peqvs p q = true ↔ Alike wcmp p q)
 | [], [], _, _ => by simp [peqvs, Alike]
 | [], _ :: _, _, _ => by simp [peqvs, Alike]
 | _ :: _, [], _, _ => by simp [peqvs, Alike]
 | a :: p, b :: q, h1, h2 => by
  rw [peqvs, Bool.and_eq_true, peqv_iff (h1 a (by simp)) (h2 b (by simp)), peqvs_alike (fun x hx => h1 x (by simp [hx])) (fun x hx => h2 x (by simp [hx])), Alike, wcmp_zero]

def LsInv (w : World) (p q : List (List E)) (s : Value) (W : World) : Prop := ∃ k : Nat, s = .int .i64 (k : Int) ∧ k ≤ p.length ∧ peqvs p q = peqvs (p.drop k) (q.drop k) ∧ Below w.heap.size w W

set_option maxRecDepth 100000 in
set_option maxHeartbeats 4000000 in
theorem listed_calls {l m : List (List REl)} {A B : Option Addr} {c d : Nat} {w : World} (h : PathsAt (Old w) w l A c) (h' : PathsAt (Old w) w m B d) :
  Calls Tryz.prog 21 #[.slice A l.length c, .slice B m.length d] w (EqPost (peqvs (pelsP l) (pelsP m)) w) := by
 obtain ⟨h1, h2, h3, xs, h4, h5⟩ := h
 obtain ⟨h1', h2', h3', ys, h4', h5'⟩ := h'
 have hl47 : l.length * 24 ≤ 140737488351232 := h1
 have hm47 : m.length * 24 ≤ 140737488351232 := h1'
 have hpl : (pelsP l).length = l.length := List.length_map _
 have hpm : (pelsP m).length = m.length := List.length_map _
 have H7 := hide (And.intro h4 (And.intro h5 (And.intro h4' h5')))
 by_cases hlen : l.length = m.length
 ·obtain ⟨n, hn⟩ : ∃ n, l.length = n := ⟨_, rfl⟩
  have hn' : m.length = n := by omega
  obtain ⟨r, hr⟩ : ∃ r, peqvs (pelsP l) (pelsP m) = r := ⟨_, rfl⟩
  rw [hr, hn, hn']
  rw [hn] at hl47 hpl
  rw [hn'] at hpm
  have Hr := hide (And.intro hr (And.intro hpl (And.intro hpm (And.intro hn hn'))))
  clear h1 h4 h5 h1' h4' h5' hr hn hn' hlen h2 h2' h3 h3' hm47 hpl hpm
  go_enter Tryz.func21, Tryz.ntmps21
  go_wp2_with fail
  go_loopw [13] (fun s W => LsInv w (pelsP l) (pelsP m) s W) (fun s _ => n - (intOf s).toNat)
  case atStart => exact ⟨0, rfl, Nat.zero_le _, by simp, Below.refl _ _⟩
  case round =>
   obtain ⟨k, rfl, hk1, heq, hb⟩ := hrel
   rw [Hr.out.2.1] at hk1
   have hki0 : (0 : Int) ≤ (k : Int) := Int.natCast_nonneg _
   by_cases hp : k < n
   ·have hpi : (k : Int) < (n : Int) := by omega
    have hp1 : k < l.length := by rw [Hr.out.2.2.2.1]; exact hp
    have hq1 : k < m.length := by rw [Hr.out.2.2.2.2]; exact hp
    have hrd := peqvs_round heq (by rw [Hr.out.2.1]; exact hp) (by rw [Hr.out.2.2.1]; exact hp)
    have e1 : (pelsP l)[k]'(by rw [Hr.out.2.1]; exact hp) = pel l[k] := by simp [pelsP]
    have e2 : (pelsP m)[k]'(by rw [Hr.out.2.2.1]; exact hp) = pel m[k] := by simp [pelsP]
    rw [e1, e2] at hrd
    clear e1 e2
    have hx := H7.out.2.1.at_ hp1
    have hy := H7.out.2.2.2.at_ hq1
    generalize l[k] = x at *
    generalize m[k] = y at *
    obtain ⟨C, cd, ecs, hx⟩ := hx
    obtain ⟨C', cd', eds, hy⟩ := hy
    obtain ⟨rb, ro, rfl, hF, hc⟩ := rown_at H7.out.1 hp1 ecs
    obtain ⟨sb, so, rfl, hG, hd⟩ := rown_at H7.out.2.2.1 hq1 eds
    have ec := (bcell hb).1
    have m0 := (ec _ _ hF).trans (hc 0 _ rfl)
    have n0 := (ec _ _ hG).trans (hd 0 _ rfl)
    rw [Nat.mul_one, Nat.add_zero] at m0 n0
    obtain ⟨v, hv⟩ : ∃ v, peqv (pel x) (pel y) = v := ⟨_, rfl⟩
    have HC := hide fun (W : World) (hb : Below w.heap.size w W) => specEqualPaths_calls (hx.at_ hb) (hy.at_ hb)
    rw [hv] at HC hrd
    rw [Hr.out.1] at hrd
    have Hrd := hide hrd
    have Hb := hide hb
    clear hb hx hy ecs eds hc hd ec hF hG hrd heq hv hp1 hq1 hk1
    go_wp2_with fail
    go_still_tail 8, (by kernel_rfl)
    change wpList _ _ _ _ _ wr.drew
    go_wp2_with fail
    refine (HC.out wr.drew (below_drew Hb.out)).mono ?_
    rintro e w1 ⟨rfl, hb1⟩
    have H1 := hide (Hb.out.trans ((below_drew' hb1).mono Hb.out.size))
    clear hb1 m0 n0
    cases v
    ·have hs := Hrd.out.2 rfl
     subst hs
     clear Hrd HC
     go_wp2
     go_ret
     exact ⟨rfl, H1.out⟩
    ·have hs := Hrd.out.1 rfl
     have Hs := hide (Hr.out.1.trans hs)
     clear hs Hrd HC
     go_wp2_with fail
     exact ⟨⟨k + 1, by go_num, by rw [Hr.out.2.1]; omega, Hs.out, H1.out⟩, by simp [intOf]; omega⟩
   ·have hpi : ¬ (k : Int) < (n : Int) := by omega
    have hr1 : r = true := by
     have e1 : (pelsP l).drop k = [] := List.drop_eq_nil_of_le (by rw [Hr.out.2.1]; omega)
     have e2 : (pelsP m).drop k = [] := List.drop_eq_nil_of_le (by rw [Hr.out.2.2.1]; omega)
     rw [Hr.out.1, e1, e2] at heq
     exact heq
    subst hr1
    have Hb := hide hb
    clear hb heq hk1
    go_wp2
    go_ret
    exact ⟨rfl, Hb.out⟩
 ·rw [peqvs_len (by rw [hpl, hpm]; exact hlen)]
  have hli : ¬ (l.length : Int) = (m.length : Int) := by omega
  have hlb : ((l.length : Int) == (m.length : Int)) = false := beq_eq_false_iff_ne.2 hli
  have hlb2 : ((l.length : Int) != (m.length : Int)) = true := bne_iff_ne.2 hli
  clear h1 h4 h5 h1' h4' h5' hpl hpm
  go_enter Tryz.func21, Tryz.ntmps21
  go_wp2
  go_ret
  exact ⟨rfl, Below.refl _ _⟩

end Go.Proofs.YtbicoknghdgahaaGreat

namespace Go.Proofs.YtbicoknghdgahaaGreat
open Go.RowKit

theorem cells_laid {α : Type} {n : Nat} {P : α → List Value → Prop} {l : List α} {xs cs : List Value} {e : α} {i : Nat} (h : Cells n P l xs) (he : P e cs) (hl : cs.length = n) (hi : i ≤ l.length) : Cells n P (l.take i ++ e :: l.drop i) (laid n i cs xs) := by
 have h1 := h.take i hi
 have h2 := h.drop_ i
 have := (h1.append (Cells.one he hl)).append h2
 simpa [laid] using this
end Go.Proofs.YtbicoknghdgahaaGreat
