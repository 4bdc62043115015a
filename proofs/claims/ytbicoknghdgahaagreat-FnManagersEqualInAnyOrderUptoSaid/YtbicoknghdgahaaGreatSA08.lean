/- Parts: LawManagers, RowUp. -/
import Derived.Test.YtbicoknghdgahaaGreatSA06
import Derived.Test.YtbicoknghdgahaaGreatSA07
import Derived.Deep.CondSized
set_option linter.unusedVariables false
set_option linter.unusedSimpArgs false
namespace Go.Proofs.YtbicoknghdgahaaGreat
open Go.RowKit
attribute [local go_sem] run_store_float

structure FineM (l : List Mgr) : Prop where
 nd : (namesM l).Nodup
 ok : TameM l
 len : ∀ m ∈ l, m.set.length ≤ 1048576
 short : ∀ m ∈ l, ∀ p ∈ pels m.set, p.length ≤ 837723144947
theorem FineM.n38 {l : List Mgr} (h : FineM l) : ∀ m ∈ l, m.set.length ≤ N38 := fun m hm => by have := h.len m hm; unfold N38; omega
theorem FineM.ht {l : List Mgr} (h : FineM l) : ∀ m ∈ l, (setP (pels m.set)).Ht 837723144947 := fun m hm => setP_ht_of (h.short m hm) (by omega)
theorem FineM.good {l : List Mgr} (h : FineM l) : ∀ m ∈ l, m.good 837723144947 := fun m hm => ⟨h.ok m hm, h.ht m hm, setP_ht_of (fun p hp => h.short m hm p (by rw [pels_rev] at hp; exact List.mem_reverse.1 hp)) (by omega)⟩
theorem FineM.out {l : List Mgr} (h : FineM l) (t : Nat) : FineM (outM t l) :=
 ⟨nodup_out h.nd, fun x hx p hp => by obtain ⟨m, hm, rfl⟩ := mem_out.1 hx; exact h.ok m hm p (by have hp : p ∈ pels m.set.reverse := hp; rw [pels_rev] at hp; exact List.mem_reverse.1 hp),
 fun x hx => by obtain ⟨m, hm, rfl⟩ := mem_out.1 hx; show m.set.reverse.length ≤ _; rw [List.length_reverse]; exact h.len m hm,
 fun x hx p hp => by obtain ⟨m, hm, rfl⟩ := mem_out.1 hx; exact h.short m hm p (by have hp : p ∈ pels m.set.reverse := hp; rw [pels_rev] at hp; exact List.mem_reverse.1 hp)⟩
theorem FineM.head {o o' : Mgr} {q : List Mgr} (h : FineM (o :: q)) (hn : o'.name = o.name) (hs : o'.set = o.set) : FineM (o' :: q) :=
 ⟨by have := h.nd; unfold namesM at this ⊢; rw [List.map_cons] at this ⊢; rw [hn]; exact this,
 fun m hm p hp => by
  rcases List.mem_cons.1 hm with rfl | hm
  ·rw [hs] at hp; exact h.ok o (by simp) p hp
  ·exact h.ok m (by simp [hm]) p hp,
 fun m hm => by
  rcases List.mem_cons.1 hm with rfl | hm
  ·rw [hs]; exact h.len o (by simp)
  ·exact h.len m (by simp [hm]),
 fun m hm p hp => by
  rcases List.mem_cons.1 hm with rfl | hm
  ·rw [hs] at hp; exact h.short o (by simp) p hp
  ·exact h.short m (by simp [hm]) p hp⟩
theorem FineM.tail {o : Mgr} {q : List Mgr} (h : FineM (o :: q)) : FineM q :=
 ⟨(List.pairwise_cons.1 h.nd).2, fun m hm => h.ok m (by simp [hm]), fun m hm => h.len m (by simp [hm]), fun m hm => h.short m (by simp [hm])⟩
theorem fineM_of {l : List Mgr} {F : Nat → Prop} {w : World} {A : Option Addr} {c : Nat} (h : MgsAt F w l A c) (hn : (namesM l).Nodup) (ho : TameM l) (hl : ∀ m ∈ l, m.set.length ≤ 1048576) : FineM l := by
 refine ⟨hn, ho, hl, fun m hm p hp => ?_⟩
 obtain ⟨h1, h2, h3, xs, h4, h5⟩ := h
 obtain ⟨i, hi, rfl⟩ := List.getElem_of_mem hm
 obtain ⟨A', c', -, k1, k2, k3, zs, k4, k5⟩ := h5.at_ hi
 obtain ⟨q, hq, rfl⟩ := List.mem_map.1 hp
 obtain ⟨j, hj, rfl⟩ := List.getElem_of_mem hq
 obtain ⟨B, d, -, q1, -⟩ := k5.at_ hj
 rw [pel_length]
 unfold R47 at q1
 omega
theorem tame_of {l : List Mgr} (h : ∀ m ∈ l, ∀ p ∈ m.set, POk (pel p)) : TameM l := fun m hm => pels_all (h m hm)
theorem equalMgs_calls {l r : List Mgr} {A B : Option Addr} {c d : Nat} {w : World} (h : MgsAt (Old w) w l A c) (h' : MgsAt (Old w) w r B d) (fl : FineM l) (fr : FineM r) :
  Calls Tryz.prog 34 #[.slice A l.length c, .slice B r.length d] w (EqPost (eqM 837723144947 l r) w) :=
 implEqualManagers_calls h h' fl.nd fr.nd fl.ok fr.ok fl.n38 fr.n38 fl.ht fr.ht

def OX (W : World) (s : Value) (b : Nat) : Prop := b < W.heap.size ∧ some b ≠ s.ownBlock
theorem mg_ones {F : Nat → Prop} {w : World} {l : List Mgr} {xs : List Value} (h : Cells 4 (MgAt F w) l xs) : ∀ u ∈ xs, u.oneCell' = true :=
 h.ones (by omega) fun p cs ⟨A, c, e, _⟩ u hu => by
  subst e
  simp only [List.mem_cons, List.not_mem_nil, or_false] at hu
  rcases hu with rfl | rfl | rfl | rfl <;> rfl
theorem ox_step {B m : Nat} {e : TypeId} {wo w5 w6 : World} {s v' : Value} {L : List Mgr} {us cs : List Value} {a : Mgr} {o : Obj} (hown : wo.ownsRow B e 4 s m us) (hus : Cells 4 (MgAt (OX wo s) wo) L us) (hb : Below wo.heap.size wo w5) (ha : MgAt (OX w5 s) w5 a cs) (hl : cs.length = 4)
  (hg : (w5.alloc o).grownBy w6 s.ownBlock) (hat : v'.ownBlock = s.ownBlock ∨ v'.ownBlock = some (w5.alloc o).heap.size) : Cells 4 (MgAt (OX w6 v') w6) (L ++ [a]) (us ++ cs) := by
 have s1 := hb.size
 have s2 := hg.size
 simp only [World.size_alloc] at s2
 have k5 : Keeps (OX w5 s) w5 w6 := by
  rintro b ⟨q1, q2⟩
  rw [hg.block b (by simp only [World.size_alloc]; omega) q2, Below.heap_alloc _ _ _ q1]
 have g5 : ∀ b, OX w5 s b → OX w6 v' b := by
  rintro b ⟨q1, q2⟩
  refine ⟨by omega, ?_⟩
  rcases hat with e | e <;> rw [e]
  ·exact q2
  ·simp only [World.size_alloc, ne_eq, Option.some.injEq]; omega
 have k1 : Keeps (OX wo s) wo w5 := Keeps.below hb fun b hb => hb.1
 have g1 : ∀ b, OX wo s b → OX w5 s b := fun b hb => ⟨by have := hb.1; omega, hb.2⟩
 exact Cells.append (hus.mono fun _ _ h => (((h.keeps k1).mono g1).keeps k5).mono g5) (Cells.one ((ha.keeps k5).mono g5) hl)
theorem mgs_head {F : Nat → Prop} {w : World} {o : Mgr} {q : List Mgr} {xs : List Value} (h : Cells 4 (MgAt F w) (o :: q) xs) :
  xs[1]? = some (.string o.ver) ∧ xs[2]? = some (.bool o.app) ∧ Cells 4 (MgAt F w) q (xs.drop 4) ∧ (∀ v, Cells 4 (MgAt F w) ({ o with ver := v } :: q) (xs.set 1 (.string v))) ∧ (∀ b, Cells 4 (MgAt F w) ({ o with app := b } :: q) (xs.set 2 (.bool b))) := by
 have h0 := h.at_ (i := 0) (by simp)
 have hd := h.drop_ 1
 simp only [List.drop_succ_cons, List.drop_zero, Nat.one_mul] at hd
 simp only [Nat.zero_mul, List.drop_zero, List.getElem_cons_zero] at h0
 obtain ⟨A, c, e, hp⟩ := h0
 have ex : xs = [.string o.name, .string o.ver, .bool o.app, .slice A o.set.length c] ++ xs.drop 4 := by rw [← e, List.take_append_drop]
 generalize xs.drop 4 = ys at *
 subst ex
 refine ⟨rfl, rfl, hd, fun v => ?_, fun b => ?_⟩
 ·exact Cells.append (ls := [({ o with ver := v } : Mgr)]) (xs := [.string o.name, .string v, .bool o.app, .slice A o.set.length c]) (Cells.one ⟨A, c, rfl, hp⟩ rfl) hd
 ·exact Cells.append (ls := [({ o with app := b } : Mgr)]) (xs := [.string o.name, .string o.ver, .bool b, .slice A o.set.length c]) (Cells.one ⟨A, c, rfl, hp⟩ rfl) hd

def MLInv (w : World) (l : List Mgr) (t : Nat) (s6 s30 : Value) (W : World) : Prop :=
 ∃ (k : Nat) (us : List Value), s30 = .int .i64 (k : Int) ∧ k ≤ l.length ∧ W.ownsRow w.heap.size 51 4 s6 k us ∧ Cells 4 (MgAt (OX W s6) W) ((outM t l).take k) us ∧ Below w.heap.size w W
def MBInv (w w1 : World) (st : List (List REl)) (s9 s10 : Value) (W : World) : Prop :=
 ∃ (c : Nat) (us : List Value), s10 = .int .i64 ((st.length : Int) - 1 - (c : Int)) ∧ c ≤ st.length ∧ W.ownsRow w1.heap.size 22 1 s9 c us ∧ Cells 1 (PQ (Old w) W) (st.reverse.take c) us ∧ Below w1.heap.size w1 W

set_option maxRecDepth 100000 in
set_option maxHeartbeats 16000000 in
theorem managersLaw {l : List Mgr} {t : Int} {A : Option Addr} {c : Nat} {w : World} (h : MgsAt (Old w) w l A c) (ht : okInt t) (hln : l.length ≤ 1048576) (hsm : ∀ m ∈ l, m.name.size ≤ R47 ∧ m.ver.size ≤ 1048576 ∧ m.set.length ≤ 1048576) :
  Calls Tryz.prog 7 #[.slice A l.length c, .int .i64 t] w (LawPost w) := by
 have HT := hide (tameManagers_calls h)
 have HC := hide fun (W : World) (hb : Below w.heap.size w W) (ho : TameM l) => cleanManagers_calls (h.at_ hb) ho fun m hm => (hsm m hm).1
 have HFi := hide fun (hn : (namesM l).Nodup) (ho : TameM l) => fineM_of h hn ho fun m hm => (hsm m hm).2.2
 have Hh := hide h
 obtain ⟨i9, hi9, hz9, hs9, hb9⟩ := info_parts mg_info
 obtain ⟨j9, hj9, hy9, ht9, hu9⟩ := info_parts paths_info
 obtain ⟨h1, h2, h3, xs, h4, h5⟩ := h
 have H7 := hide (And.intro h4 (And.intro h5 hsm))
 have hcN : (cleanN l).length ≤ l.length := cleanN_length l
 obtain ⟨cN, hcn⟩ : ∃ cN, (cleanN l).length = cN := ⟨_, rfl⟩
 obtain ⟨n, hn⟩ : ∃ n, l.length = n := ⟨_, rfl⟩
 have Hn := hide (And.intro hn hcn)
 obtain ⟨ht1, ht2⟩ := ht
 rw [hcn, hn] at hcN
 rw [hcn] at HC
 rw [hn] at HT HC hln h2 H7 ⊢
 clear h1 h4 h5 hsm hcn hn
 have gi1 : ¬ (2147483647 : Int) < (n : Int) := by omega
 have gd1 : decide ((2147483647 : Int) < (n : Int)) = false := decide_eq_false gi1
 go_enter Tryz.func7, Tryz.ntmps7
 go_wp2_with fail
 refine HT.out.mono ?_
 rintro en w1 ⟨tm, rfl, hok, hb1⟩
 have Hok := hide hok
 have Hb1 := hide hb1
 clear hok hb1 HT
 cases tm
 ·go_wp2
  go_ret
  exact ⟨rfl, Hb1.out⟩
 have htm : TameM l := tame_of (Hok.out (by first | trivial | rfl))
 have HC1 := hide (HC.out w1 Hb1.out htm)
 have Htm := hide htm
 clear HC Hok htm
 go_wp2_with fail
 refine HC1.out.mono ?_
 rintro en w2 ⟨B2, d2, rfl, hb2⟩
 have Hb2 := hide (Hb1.out.trans (hb2.mono Hb1.out.size))
 clear hb2 Hb1 HC1
 by_cases hcl : cN = n
 case neg =>
  have hci : ¬ (cN : Int) = (n : Int) := by omega
  have hcb : ((cN : Int) == (n : Int)) = false := beq_eq_false_iff_ne.2 hci
  have hcb2 : ((cN : Int) != (n : Int)) = true := by simp [bne, hcb]
  go_wp2
  go_ret
  exact ⟨rfl, Hb2.out⟩
 have hnd : (namesM l).Nodup := cleanN_nodup (by rw [Hn.out.1, Hn.out.2, hcl])
 have Hfl := hide (HFi.out hnd Htm.out)
 subst hcl
 have hcb2 : ((cN : Int) != (cN : Int)) = false := by simp
 clear hnd HFi Htm
 have hn0 : (0 : Int) ≤ (cN : Int) := Int.natCast_nonneg _
 obtain ⟨T, hT⟩ : ∃ T : Nat, T = ((t.tmod (cN : Int) + (cN : Int)).tmod (cN : Int)).toNat := ⟨_, rfl⟩
 have hTn : 0 < cN → T < cN ∧ (t.tmod (cN : Int) + (cN : Int)).tmod (cN : Int) = (T : Int) := fun hp => by
  have h1 := Int.tmod_lt_of_pos t (b := (cN : Int)) (by omega)
  have h2 : -(cN : Int) < t.tmod (cN : Int) := by
   have := Int.lt_tmod_of_pos t (b := (cN : Int)) (by omega)
   omega
  have h3 := Int.tmod_nonneg (a := t.tmod (cN : Int) + (cN : Int)) (b := (cN : Int)) (by omega)
  have h4 := Int.tmod_lt_of_pos (t.tmod (cN : Int) + (cN : Int)) (b := (cN : Int)) (by omega)
  rw [hT]
  omega
 have hTb : 0 < cN → -(cN : Int) < t.tmod (cN : Int) ∧ t.tmod (cN : Int) < (cN : Int) := fun hp => by
  have h1 := Int.tmod_lt_of_pos t (b := (cN : Int)) (by omega)
  have := Int.lt_tmod_of_pos t (b := (cN : Int)) (by omega)
  omega
 have HTn := hide (And.intro hTn hTb)
 clear hTn hTb hT
 go_wp2_with fail
 have hw2 : w.heap.size ≤ w2.heap.size := Hb2.out.size
 go_loopw [6, 30] (fun s6 s30 W => MLInv w l T s6 s30 W) (fun _ s _ => cN - (intOf s).toNat)
 case atStart => exact ⟨0, [], rfl, Nat.zero_le _, World.ownsRow_nil _ _ _ _, by rw [List.take_zero]; exact Cells.nil_, Hb2.out⟩
 case round =>
  obtain ⟨k, us, rfl, hk, hown, hus, hb⟩ := hrel
  rw [Hn.out.1] at hk
  have hki0 : (0 : Int) ≤ (k : Int) := Int.natCast_nonneg _
  obtain ⟨oA, oc, rfl, hoc1, hoc2⟩ := own_form hown
  by_cases hlt : k < cN
  ·have hki1 : (k : Int) < (cN : Int) := by omega
   obtain ⟨hTl, hTe⟩ := HTn.out.1 (by omega)
   obtain ⟨hT1, hT2⟩ := HTn.out.2 (by omega)
   obtain ⟨j, hj⟩ : ∃ j, (k + T) % cN = j := ⟨_, rfl⟩
   have hjl : j < cN := by rw [← hj]; exact Nat.mod_lt _ (by omega)
   have hjl' : j < l.length := by rw [Hn.out.1]; exact hjl
   have hje : ((k : Int) + (T : Int)).tmod (cN : Int) = (j : Int) := by
    rw [Int.tmod_eq_emod_of_nonneg (by omega), ← hj]
    simp
   have hji0 : (0 : Int) ≤ (j : Int) := Int.natCast_nonneg _
   have hji1 : (j : Int) < (cN : Int) := by omega
   have hx := H7.out.2.1.at_ hjl'
   have hsn : (outM T l).take (k + 1) = (outM T l).take k ++ [(l[j]).back] := by
    have hg := outM_get (t := T) (i := k) (l := l) (by rw [Hn.out.1]; exact hTl) (by rw [Hn.out.1]; exact hlt) (by rw [Hn.out.1, hj]; exact hjl)
    rw [List.take_add_one, hg]
    simp only [Hn.out.1, hj]
    rfl
   have hmem := List.getElem_mem hjl'
   generalize l[j] = fx at *
   generalize hcs : (xs.drop (j * 4)).take 4 = fcs at hx
   obtain ⟨PA, pc, rfl, hp⟩ := hx
   obtain ⟨rb, ro, rfl, hF, hc⟩ := rown_at H7.out.1 hjl hcs
   have ec := (bcell hb).1
   have q0 := (ec _ _ hF).trans (hc 0 _ rfl)
   have q1 := (ec _ _ hF).trans (hc 1 _ rfl)
   have q2 := (ec _ _ hF).trans (hc 2 _ rfl)
   have q3 := (ec _ _ hF).trans (hc 3 _ rfl)
   rw [Nat.add_zero] at q0
   have hrb : rb < w.heap.size := hF
   have hwe : w.heap.size ≤ wr.heap.size := hb.size
   have Hq := hide (And.intro hown (And.intro hus (And.intro hb hsn)))
   obtain ⟨p1, p2, p3, zs, p4, p5⟩ := hp
   have Hp := hide (And.intro p4 p5)
   have p1' : fx.set.length * 24 ≤ 140737488351232 := p1
   have hpn1 : fx.set.length ≤ 1048576 := (H7.out.2.2 fx hmem).2.2
   clear hown hus hb hsn hcs hc ec hF p4 p5 p1 hmem hj
   obtain ⟨wo, hwo⟩ : ∃ W, W = wr := ⟨_, rfl⟩
   subst hwo
   obtain ⟨pn, hpn⟩ : ∃ pn, fx.set.length = pn := ⟨_, rfl⟩
   have Hpn := hide hpn
   rw [hpn] at q3 p1' hpn1 p2
   clear hpn
   go_upto_region 11 with fail
   have hbA : Below wo.heap.size wo (wo.alloc (.cells #[.string fx.name, .string fx.ver, .bool fx.app, .slice PA pn pc] 51)) := (Below.refl _ _).alloc (Nat.le_refl _) _
   have hX := Bk.new wo 51 #[.string fx.name, .string fx.ver, .bool fx.app, .slice PA pn pc]
   clear q0 q1 q2 q3
   generalize hw1 : World.alloc wo _ = w3 at hbA hX ⊢
   have hsz3 : wo.heap.size + 1 ≤ w3.heap.size := by rw [← hw1, World.size_alloc]; exact Nat.le_refl _
   have hsz3' : w3.heap.size ≤ wo.heap.size + 1 := by rw [← hw1, World.size_alloc]; exact Nat.le_refl _
   have x3 := hX.cell 3
   have hxl : wo.heap.size < w3.heap.size := hX.lt
   simp at x3
   have H3 := hide (And.intro hbA hX)
   have Hb3 := hide (Hq.out.2.2.1.trans (hbA.mono hwe))
   clear hw1 hbA hX
   have hw3 : w.heap.size ≤ w3.heap.size := Hb3.out.size
   have hpn0 : (0 : Int) ≤ (pn : Int) := Int.natCast_nonneg _
   go_wp2_with fail
   have W3 := hide x3
   go_loopw [9, 10] (fun s9 s10 W => MBInv w w3 fx.set s9 s10 W) (fun _ s _ => (intOf s + 1).toNat)
   case atStart =>
    refine ⟨0, [], ?_, Nat.zero_le _, World.ownsRow_nil _ _ _ _, by rw [List.take_zero]; exact Cells.nil_, Below.refl _ _⟩
    rw [Hpn.out]
    simp
   case round =>
    clear x3
    obtain ⟨c9, vs, rfl, hc9, hown, hvs, hb⟩ := hrel
    rw [Hpn.out] at hc9
    rw [Hpn.out]
    obtain ⟨bA, bc, rfl, hbc1, hbc2⟩ := own_form hown
    have x3 := ((bcell hb).1 _ _ hxl).trans W3.out
    have hw3r : w3.heap.size ≤ wr.heap.size := hb.size
    by_cases hcl : c9 < pn
    ·obtain ⟨m, hm⟩ : ∃ m : Nat, m = pn - 1 - c9 := ⟨_, rfl⟩
     have hme : (pn : Int) - 1 - (c9 : Int) = (m : Int) := by omega
     have hml : m < pn := by omega
     have hml' : m < fx.set.length := by rw [Hpn.out]; exact hml
     rw [hme]
     have Hm := hide hm
     clear hm
     have hmi0 : (0 : Int) ≤ (m : Int) := Int.natCast_nonneg _
     have hmi1 : (m : Int) < (pn : Int) := by omega
     have hy := Hp.out.2.at_ hml'
     have hsn2 : fx.set.reverse.take (c9 + 1) = fx.set.reverse.take c9 ++ [fx.set[m]] := by
      have hc9' : c9 < fx.set.reverse.length := by rw [List.length_reverse, Hpn.out]; exact hcl
      rw [List.take_succ_eq_append_getElem hc9', List.getElem_reverse]
      congr 3
      rw [Hpn.out, Hm.out]
     generalize fx.set[m] = q at *
     generalize hcs : (zs.drop (m * 1)).take 1 = gcs at hy
     obtain ⟨qA, qc, rfl, hq⟩ := hy
     obtain ⟨sb, so, rfl, hF, hc⟩ := rown_at (by rw [Hpn.out] at Hp; exact Hp.out.1) hml hcs
     have y0 := ((bcell (Hb3.out.trans (hb.mono hw3))).1 _ _ hF).trans (hc 0 _ rfl)
     rw [Nat.mul_one, Nat.add_zero] at y0
     have hsb : sb < w.heap.size := hF
     obtain ⟨qn, hqn⟩ : ∃ qn, q.length = qn := ⟨_, rfl⟩
     have Hy := hide (And.intro hown (And.intro hvs (And.intro hb (And.intro hsn2 (And.intro hq hqn)))))
     rw [hqn] at y0
     have hmx : IntKind.i64.wrap ((m : Int) - 1) = (pn : Int) - 1 - ((c9 + 1 : Nat) : Int) := by rw [IntWalk.i64_in _ (by omega)]; omega
     have hmx2 : (m : Int) - 1 = (pn : Int) - 1 - ((c9 + 1 : Nat) : Int) := by omega
     clear hown hvs hb hsn2 hq hqn hcs hc hF
     go_wp2_with (at_builtin; go_loud (refine wpList_append_row _ rfl (.tmp 55) (.tmp 61) 36 rfl w3.heap.size 22 j9 _ 1 24 Tryz.underlying36 hj9 hy9 ht9 hu9 rfl (by omega) (.slice bA c9 bc) c9 _ rfl (Hy.out.1.alloc _) (fun _ => True) (some ⟨wr.heap.size, 0, none⟩) 1 1 [.slice qA qn qc] rfl (Row.of_bkp (Bk.new wr 22 ([.slice qA qn qc] : List Value).toArray) rfl trivial) (by simp [Value.oneCell']) (by omega) (by omega) (by rw [World.size_alloc]; omega) ?_))
     intro v5 w5 hown5 hg5 _
     have hlo := Hy.out.1.lt
     have hbv : Below w3.heap.size w3 (wr.alloc (.cells #[.slice qA qn qc] 22)) := Hy.out.2.2.1.alloc hw3r _
     have hbw : Below w.heap.size w (wr.alloc (.cells #[.slice qA qn qc] 22)) := Hb3.out.trans (hbv.mono hw3)
     have hkA : Keeps (Old w) wr (wr.alloc (.cells #[.slice qA qn qc] 22)) := Keeps.alloc _ _ fun b hb => by have hb : b < w.heap.size := hb; omega
     have hst := old_step (w := w) (Q := PQ) (add := [q]) (fun h k => h.keeps k) (Hy.out.2.1.mono fun _ _ h => PQ.keeps h hkA) hbw (fun b hb => by have := (hlo b hb).1; omega) hg5 (Cells.one ⟨qA, qc, by rw [Hy.out.2.2.2.2.2], Hy.out.2.2.2.2.1.keeps (Keeps.below hbw fun _ h => h)⟩ rfl)
     have hb5 : Below w3.heap.size w3 w5 := hbv.grown hg5 (by simp; omega) fun b hb => (hlo b hb).1
     obtain ⟨nA, nc, rfl, _, _⟩ := own_form hown5
     have Hfin := hide (show MBInv w w3 fx.set (.slice nA (c9 + 1) nc) (.int .i64 ((pn : Int) - 1 - ((c9 + 1 : Nat) : Int))) w5 from ⟨c9 + 1, _, by rw [Hpn.out], by rw [Hpn.out]; omega, hown5, by rw [Hy.out.2.2.2.1]; exact hst.1, hb5⟩)
     clear hown5 hg5 hlo hbv hbw hkA hst hb5 Hy x3 y0
     go_wp2_with fail
     refine ⟨?_, by simp [intOf]; omega⟩
     exact Hfin.out
    ·have hce : c9 = pn := by omega
     subst hce
     have hme : (c9 : Int) - 1 - (c9 : Int) = -1 := by omega
     rw [hme]
     have hsl : fx.set.reverse.length = c9 := by rw [List.length_reverse, Hpn.out]
     rw [List.take_of_length_le (by rw [hsl]; exact Nat.le_refl _)] at hvs
     have hX9 : Bk wr wo.heap.size 51 #[.string fx.name, .string fx.ver, .bool fx.app, .slice PA c9 pc] := H3.out.2.below hb hxl
     have hbr : Below wo.heap.size wo wr := H3.out.1.trans (hb.mono (by omega))
     have hlo9 := hown.lt
     have hfl := Row.of_own hown (F := fun b => w3.heap.size ≤ b ∧ b < wr.heap.size) fun g hg => hlo9 g hg
     have Hz := hide (And.intro hX9 (And.intro hbr (And.intro hfl hvs)))
     have z0 := hX9.cell 0
     have z1 := hX9.cell 1
     have z2 := hX9.cell 2
     have z3 := hX9.cell 3
     have hzf : ∀ i, wr.frozen? ⟨wo.heap.size, i, none⟩ = false := fun i => hX9.free i
     have hzl : wo.heap.size < wr.heap.size := hX9.lt
     simp at z0 z1 z2 z3
     clear x3 hown hvs hb hX9 hbr hlo9 hfl hcl hc9
     obtain ⟨wi, hwi⟩ : ∃ W, W = wr := ⟨_, rfl⟩
     subst hwi
     go_upto_region 17 with fail
     have hX5 := Hz.out.1.set_ 3 (.slice bA c9 bc)
     have hb5 : Below wo.heap.size wo (wi.setCell ⟨wo.heap.size, 3, none⟩ (.slice bA c9 bc)) := Hz.out.2.1.setCell (Nat.le_refl _) _
     have hrow5 : Row (fun b => w3.heap.size ≤ b ∧ b < wi.heap.size) (wi.setCell ⟨wo.heap.size, 3, none⟩ (.slice bA c9 bc)) 1 bA c9 vs := Hz.out.2.2.1.keeps (Keeps.setCell _ _ _ fun b hb => by have := hb.1; simp; omega)
     have hsz5 : (wi.setCell ⟨wo.heap.size, 3, none⟩ (.slice bA c9 bc)).heap.size = wi.heap.size := by simp
     have hcel5 : Cells 1 (PQ (Old w) (wi.setCell ⟨wo.heap.size, 3, none⟩ (.slice bA c9 bc))) fx.set.reverse vs := Hz.out.2.2.2.mono fun _ _ h => PQ.keeps h (Keeps.setCell _ _ _ fun b hb => by have hb : b < w.heap.size := hb; simp; omega)
     clear z0 z1 z2 z3 hzf
     generalize hw5 : World.setCell wi _ _ = w5 at hX5 hb5 hrow5 hsz5 hcel5 ⊢
     have z0 := hX5.cell 0
     have z1 := hX5.cell 1
     have z2 := hX5.cell 2
     have z3 := hX5.cell 3
     have hzl5 := hX5.lt
     simp at z0 z1 z2 z3
     have hsz6 : wi.heap.size ≤ w5.heap.size := Nat.le_of_eq hsz5.symm
     have hsz7 : w5.heap.size ≤ wi.heap.size := Nat.le_of_eq hsz5
     clear hsz5
     have hlo6 := Hq.out.1.lt
     have hitem : MgAt (OX w5 (.slice oA k oc)) w5 fx.back [.string fx.name, .string fx.ver, .bool fx.app, .slice bA c9 bc] := by
      refine ⟨bA, bc, ?_, ?_, ?_, ?_, vs, ?_, ?_⟩
      ·show ([.string fx.name, .string fx.ver, .bool fx.app, .slice bA c9 bc] : List Value) = [.string fx.name, .string fx.ver, .bool fx.app, .slice bA fx.set.reverse.length bc]
       rw [hsl]
      ·show fx.set.reverse.length * 24 ≤ R47
       rw [hsl]; exact p1'
      ·show fx.set.reverse.length ≤ bc
       rw [hsl]; exact hbc1
      ·exact hbc2
      ·show Row (OX w5 (.slice oA k oc)) w5 1 bA fx.set.reverse.length vs
       rw [hsl]
       exact hrow5.mono fun b hb => ⟨by have := hb.2; omega, fun e => by have := (hlo6 b e.symm).2; have := hb.1; omega⟩
      ·exact hcel5.mono fun _ _ h => PQ.mono h fun b hb => ⟨by have hb : b < w.heap.size := hb; omega, fun e => by have := (hlo6 b e.symm).1; have hb : b < w.heap.size := hb; omega⟩
     have H5 := hide (And.intro hb5 hitem)
     have hw5s : w.heap.size ≤ w5.heap.size := by omega
     clear hX5 hb5 hrow5 hcel5 hw5 hitem hsl Hz hlo6
     go_wp2_with (at_builtin; go_loud (refine wpList_append_row _ rfl (.tmp 65) (.tmp 67) 47 rfl w.heap.size 51 i9 _ 4 64 Tryz.underlying47 hi9 hz9 hs9 hb9 rfl (by omega) (.slice oA k oc) k us rfl ((ownsRow_below Hq.out.1 H5.out.1 (Nat.le_refl _)).alloc _) (fun _ => True) (some ⟨w5.heap.size, 0, none⟩) 1 1 [.string fx.name, .string fx.ver, .bool fx.app, .slice bA c9 bc] rfl (Row.of_bkp (Bk.new w5 51 ([.string fx.name, .string fx.ver, .bool fx.app, .slice bA c9 bc] : List Value).toArray) rfl trivial) (by simp [Value.oneCell']) (by omega) (by omega) (by rw [World.size_alloc]; omega) ?_))
     intro v6 w6 hown6 hg6 hat6
     have hst := ox_step Hq.out.1 Hq.out.2.1 H5.out.1 H5.out.2 rfl hg6 (by rw [World.size_alloc]; exact hat6)
     have hlo := Hq.out.1.lt
     have hb6 : Below w.heap.size w w6 := ((Hq.out.2.2.1.trans (H5.out.1.mono hwe)).alloc hw5s _).grown hg6 (by simp; omega) fun b e => (hlo b e).1
     have Hfin := hide (show MLInv w l T v6 (.int .i64 ((k + 1 : Nat) : Int)) w6 from ⟨k + 1, _, rfl, by rw [Hn.out.1]; omega, hown6, by rw [Hq.out.2.2.2]; exact hst, hb6⟩)
     obtain ⟨nA, nc, rfl, _, _⟩ := own_form hown6
     clear hown6 hg6 hat6 hst hlo hb6 H5 Hq z0 z1 z2 z3
     go_wp2_with fail
     exact ⟨Hfin.out, by simp [intOf]; omega⟩
  ·have hke : k = cN := by omega
   subst hke
   have hki1 : ¬ ((k : Nat) : Int) < (k : Int) := by omega
   have hol : (outM T l).length = k := by rw [outM_length, Hn.out.1]
   rw [List.take_of_length_le (by rw [hol]; exact Nat.le_refl _)] at hus
   have hlo := hown.lt
   have hout : MgsAt (Old wr) wr (outM T l) oA oc := ⟨by rw [hol]; unfold R47; omega, by rw [hol]; exact hoc1, hoc2, us, by rw [hol]; exact Row.of_own hown fun b hb => (hlo b hb).2, hus.mono fun _ _ h => h.mono fun b hb => hb.1⟩
   have Fo := Hfl.out.out T
   have he := eqM_out (t := T) Hfl.out.nd Hfl.out.good
   have HE1 := hide (equalMgs_calls (Hh.out.at_ hb) hout Hfl.out Fo)
   rw [he.1, Hn.out.1, hol] at HE1
   have HE2 := hide fun (W : World) (hb' : Below wr.heap.size wr W) => equalMgs_calls (hout.at_ hb') ((Hh.out.at_ hb).at_ hb') Fo Hfl.out
   rw [he.2, Hn.out.1, hol] at HE2
   have Ho := hide (And.intro hout (And.intro hb Fo))
   have Hol := hide hol
   clear hown hus hlo hout hb Fo he hol
   obtain ⟨wo, hwo⟩ : ∃ W, W = wr := ⟨_, rfl⟩
   subst hwo
   go_wp2_with fail
   refine HE1.out.mono ?_
   rintro en w3 ⟨rfl, hb3⟩
   have Hb3 := hide hb3
   clear hb3 HE1
   go_wp2_with fail
   refine (HE2.out w3 Hb3.out).mono ?_
   rintro en w4 ⟨rfl, hb4⟩
   have Hb4 := hide (Hb3.out.trans (hb4.mono Hb3.out.size))
   clear hb4 Hb3 HE2
   by_cases hz : k = 0
   ·subst hz
    go_wp2
    go_ret
    exact ⟨rfl, Ho.out.2.1.trans (Hb4.out.mono Ho.out.2.1.size)⟩
   have hzi : ¬ (k : Int) = 0 := by omega
   have hzb : ((k : Int) == 0) = false := beq_eq_false_iff_ne.2 hzi
   have hk0 : (0 : Int) < (k : Int) := by omega
   obtain ⟨o, q, hoq⟩ : ∃ o q, outM T l = o :: q := by
    cases hh : outM T l with
    | nil => have := Hol.out; rw [hh] at this; simp at this; omega
    | cons o q => exact ⟨o, q, rfl⟩
   have ho1 : ∃ m ∈ l, o = m.back := mem_out.1 (by rw [hoq]; exact List.mem_cons_self)
   have hqk : q.length + 1 = k := by have := Hol.out; rw [hoq] at this; simpa using this
   have hov : o.ver.size ≤ 1048576 := by
    obtain ⟨m, hm, rfl⟩ := ho1
    exact (H7.out.2.2 m hm).2.1
   have Fq : FineM (o :: q) := by have := Ho.out.2.2; rwa [hoq] at this
   have Hr := hide (And.intro ho1 (And.intro hqk Fq))
   have hb4 : Below w.heap.size w w4 := Ho.out.2.1.trans (Hb4.out.mono Ho.out.2.1.size)
   have ho4 : MgsAt (Old w4) w4 (o :: q) oA oc := by have := Ho.out.1.at_ Hb4.out; rwa [hoq] at this
   have hkq : (o :: q).length = k := by simpa using hqk
   have H4 := hide (And.intro hb4 ho4)
   have Hkq := hide hkq
   obtain ⟨m1, m2, m3, us4, m4, m5⟩ := ho4
   rw [hkq] at m4
   have hbx : Below w4.heap.size w4 (w4.alloc (.cells #[] 51)) := (Below.refl _ _).alloc (Nat.le_refl _) _
   have hown0 := World.ownsRow_lit (base := w4.heap.size) (e := 51) (size := 4) w4 #[] 0 (by omega) (by simp [maxLen]) (by simp)
   have HA := hide (And.intro hbx (And.intro hown0 (And.intro (m4.keeps (Keeps.below hbx fun _ h => h)) (And.intro (mg_ones m5) m5))))
   have hw4 : w.heap.size ≤ w4.heap.size := hb4.size
   clear hbx hown0 m1 m2 m3 m4 m5 ho1 hqk Fq hb4 hkq Ho Hb4 hoq
   go_wp2_with (at_builtin; go_loud (refine wpList_append_row _ rfl (.tmp 82) (.tmp 83) 47 rfl w4.heap.size 51 i9 _ 4 64 Tryz.underlying47 hi9 hz9 hs9 hb9 rfl (by omega) (.slice (some ⟨w4.heap.size, 0, none⟩) 0 0) 0 [] rfl HA.out.2.1 (Old w4) oA k oc us4 rfl HA.out.2.2.1 HA.out.2.2.2.1 (by omega) (by omega) (by simp) ?_))
   intro v5 w5 hown5 hg5 _
   try rw [List.nil_append] at hown5
   try rw [Nat.zero_add] at hown5
   have hb5 : Below w4.heap.size w4 w5 := HA.out.1.grown hg5 (by simp) fun g e => by
    have e1 : w4.heap.size = g := Option.some.inj e
    omega
   obtain ⟨g, cg, rfl, hgb, hgl⟩ := hown5.form (by omega)
   have hh4 := mgs_head HA.out.2.2.2.2
   have x1 : w5.cell? ⟨g, 1, none⟩ = some (.string o.ver) := (hown5.cellAt 1 (by omega)).trans hh4.1
   have xf : ∀ j, w5.frozen? ⟨g, j, none⟩ = false := fun j => hown5.frozenAt j
   have hadd : ∀ W : World, (Op.stringOp .add o.ver ⟨#[120]⟩).run Tryz.prog W = .ok (.string (o.ver ++ ⟨#[120]⟩)) W := fun W => run_string_add_sum W _ _ (by have : (⟨#[120]⟩ : ByteArray).size = 1 := rfl; omega)
   obtain ⟨nv, hnv⟩ : ∃ nv, o.ver ++ ⟨#[120]⟩ = nv := ⟨_, rfl⟩
   have hvne : o.ver ≠ nv := by
    intro e
    have : nv.size = o.ver.size + 1 := by rw [← hnv, ByteArray.size_append]; rfl
    rw [← e] at this
    omega
   rw [hnv] at hadd
   have hst := hown5.stored 1 (.string nv)
   have hb6 : Below w4.heap.size w4 (w5.setCell ⟨g, 1, none⟩ (.string nv)) := hb5.setCell hgb _
   have hcg := own_form hown5
   have H5 := hide (And.intro hst.1 (And.intro hb6 (And.intro (hh4.2.2.2.1 nv) hcg)))
   have Hv := hide hvne
   clear hown5 hg5 hb5 hh4 hst hb6 hcg hvne hnv
   go_upto_region 25 with fail
   clear x1 xf hadd
   generalize hw6 : World.setCell w5 _ _ = w6 at H5 ⊢
   have hg6 : g < w6.heap.size := by rw [← hw6]; simpa using hgl
   clear hw6 hgl
   have hw46 : w4.heap.size ≤ w6.heap.size := H5.out.2.1.size
   obtain ⟨-, -, -, us6, m4, m5⟩ := H4.out.2.at_ H5.out.2.1
   rw [Hkq.out] at m4
   have hbx : Below w6.heap.size w6 (w6.alloc (.cells #[] 51)) := (Below.refl _ _).alloc (Nat.le_refl _) _
   have hown0 := World.ownsRow_lit (base := w6.heap.size) (e := 51) (size := 4) w6 #[] 0 (by omega) (by simp [maxLen]) (by simp)
   have HB := hide (And.intro hbx (And.intro hown0 (And.intro (m4.keeps (Keeps.below hbx fun _ h => h)) (And.intro (mg_ones m5) m5))))
   clear hbx hown0 m4 m5
   go_wp2_with (at_builtin; go_loud (refine wpList_append_row _ rfl (.tmp 92) (.tmp 93) 47 rfl w6.heap.size 51 i9 _ 4 64 Tryz.underlying47 hi9 hz9 hs9 hb9 rfl (by omega) (.slice (some ⟨w6.heap.size, 0, none⟩) 0 0) 0 [] rfl HB.out.2.1 (Old w6) oA k oc us6 rfl HB.out.2.2.1 HB.out.2.2.2.1 (by omega) (by omega) (by simp) ?_))
   intro v7 w7 hown7 hg7 _
   try rw [List.nil_append] at hown7
   try rw [Nat.zero_add] at hown7
   have hb7 : Below w6.heap.size w6 w7 := HB.out.1.grown hg7 (by simp) fun g e => by
    have e1 : w6.heap.size = g := Option.some.inj e
    omega
   obtain ⟨g2, cg2, rfl, hgb2, hgl2⟩ := hown7.form (by omega)
   have hh6 := mgs_head HB.out.2.2.2.2
   have x2 : w7.cell? ⟨g2, 2, none⟩ = some (.bool o.app) := (hown7.cellAt 2 (by omega)).trans hh6.2.1
   have xf : ∀ j, w7.frozen? ⟨g2, j, none⟩ = false := fun j => hown7.frozenAt j
   have hst := hown7.stored 2 (.bool (!o.app))
   have hb8 : Below w6.heap.size w6 (w7.setCell ⟨g2, 2, none⟩ (.bool (!o.app))) := hb7.setCell hgb2 _
   have hcg := own_form hown7
   have H7' := hide (And.intro hst.1 (And.intro hb8 (And.intro (hh6.2.2.2.2 (!o.app)) hcg)))
   clear hown7 hg7 hb7 hh6 hst hb8 hcg HB HA
   go_upto_region 27 with fail
   clear x2 xf
   generalize hw8 : World.setCell w7 _ _ = w8 at H7' ⊢
   clear hw8 hgl2
   have hb68 := H7'.out.2.1
   have hb48 : Below w4.heap.size w4 w8 := H5.out.2.1.trans (hb68.mono hw46)
   have hbw8 : Below w.heap.size w w8 := H4.out.1.trans (hb48.mono hw4)
   have hout8 : MgsAt (Old w8) w8 (o :: q) oA oc := H4.out.2.at_ hb48
   have hl8 : MgsAt (Old w8) w8 l A c := Hh.out.at_ hbw8
   have hoth : MgsAt (Old w8) w8 ({ o with ver := nv } :: q) (some ⟨g, 0, none⟩) cg := by
    obtain ⟨_, _, e, c1, c2⟩ := H5.out.2.2.2
    cases e
    have hle : ({ o with ver := nv } :: q : List Mgr).length = k := Hkq.out
    refine ⟨by rw [hle]; unfold R47; omega, by rw [hle]; exact c1, c2, us4.set 1 (.string nv), ?_, ?_⟩
    ·rw [hle]
     exact ((Row.of_own H5.out.1 (F := Old w6) fun b hb => (H5.out.1.lt b hb).2).keeps (Keeps.below hb68 fun _ h => h)).mono fun _ h => Nat.lt_of_lt_of_le h hb68.size
    ·exact H5.out.2.2.1.mono fun _ _ h => (h.keeps (Keeps.below hb48 fun _ h => h)).mono fun _ h => Nat.lt_of_lt_of_le h hb48.size
   have hmk : MgsAt (Old w8) w8 ({ o with app := !o.app } :: q) (some ⟨g2, 0, none⟩) cg2 := by
    obtain ⟨_, _, e, c1, c2⟩ := H7'.out.2.2.2
    cases e
    have hle : ({ o with app := !o.app } :: q : List Mgr).length = k := Hkq.out
    refine ⟨by rw [hle]; unfold R47; omega, by rw [hle]; exact c1, c2, us6.set 2 (.bool (!o.app)), ?_, ?_⟩
    ·rw [hle]
     exact Row.of_own H7'.out.1 fun b hb => (H7'.out.1.lt b hb).2
    ·exact H7'.out.2.2.1.mono fun _ _ h => (h.keeps (Keeps.below hb68 fun _ h => h)).mono fun _ h => Nat.lt_of_lt_of_le h hb68.size
   have htl : MgsAt (Old w8) w8 q (if oc = 1 then oA else oA.map (·.add 4)) (oc - 1) := by
    obtain ⟨n1, n2, n3, vs, n4, n5⟩ := hout8
    rw [Hkq.out] at n1 n2 n4
    have hql : q.length = k - 1 := by have := Hr.out.2.1; omega
    refine ⟨by rw [hql]; unfold R47; omega, by rw [hql]; omega, by omega, vs.drop 4, ?_, ?_⟩
    ·rw [hql]
     simpa using n4.drop (m := 1) (by omega) n2
    ·exact (mgs_head n5).2.2.1
   have Fq := Hr.out.2.2
   have Fv : FineM ({ o with ver := nv } :: q) := Fq.head rfl rfl
   have Fa : FineM ({ o with app := !o.app } :: q) := Fq.head rfl rfl
   have e1 := eqM_other (N := 837723144947) Hfl.out.nd Fq.nd Hr.out.1 Hv.out
   have e2 := eqM_marked (N := 837723144947) (q := q) (b := !o.app) Hfl.out.nd Hr.out.1 (by cases o.app <;> simp)
   have e3 : eqM 837723144947 l q = false := eqM_short (o := o) (by rw [Hn.out.1, Hkq.out])
   have HE1 := hide (equalMgs_calls hl8 hoth Hfl.out Fv)
   have HE2 := hide fun (W : World) (hb : Below w8.heap.size w8 W) => equalMgs_calls (hmk.at_ hb) (hl8.at_ hb) Fa Hfl.out
   have HE3 := hide fun (W : World) (hb : Below w8.heap.size w8 W) => equalMgs_calls (hl8.at_ hb) (htl.at_ hb) Hfl.out Fq.tail
   have hl1 : ({ o with ver := nv } :: q : List Mgr).length = k := Hkq.out
   have hl2 : ({ o with app := !o.app } :: q : List Mgr).length = k := Hkq.out
   have hql : q.length = k - 1 := by have := Hr.out.2.1; omega
   rw [e1, Hn.out.1, hl1] at HE1
   rw [e2, Hn.out.1, hl2] at HE2
   rw [e3, Hn.out.1, hql] at HE3
   have Hb8 := hide hbw8
   clear e1 e2 e3 hl1 hl2 hql Fq Fv Fa hout8 hl8 hoth hmk htl hb68 hb48 hbw8 H5 H7' H4 Hr Hv
   have hoc1' : (1 : Int) ≤ (k : Int) := by omega
   have hoc2' : (k : Int) ≤ (oc : Int) := by omega
   by_cases hoc : oc = 1
   ·subst hoc
    rw [if_pos rfl, show k - 1 = 0 from by omega, show (1 : Nat) - 1 = 0 from rfl] at HE3
    go_wp2_with fail
    refine HE1.out.mono ?_
    rintro en w9 ⟨rfl, hb9'⟩
    have Hb9 := hide hb9'
    clear hb9' HE1
    go_wp2_with fail
    refine (HE2.out w9 Hb9.out).mono ?_
    rintro en wA ⟨rfl, hbA'⟩
    have HbA := hide (Hb9.out.trans (hbA'.mono Hb9.out.size))
    clear hbA' Hb9 HE2
    go_wp2_with fail
    refine (HE3.out wA HbA.out).mono ?_
    rintro en wB ⟨rfl, hbB'⟩
    have HbB := hide (HbA.out.trans (hbB'.mono HbA.out.size))
    clear hbB' HbA HE3
    go_wp2
    go_ret
    exact ⟨rfl, Hb8.out.trans (HbB.out.mono Hb8.out.size)⟩
   ·rw [if_neg hoc] at HE3
    go_wp2_with fail
    refine HE1.out.mono ?_
    rintro en w9 ⟨rfl, hb9'⟩
    have Hb9 := hide hb9'
    clear hb9' HE1
    go_wp2_with fail
    refine (HE2.out w9 Hb9.out).mono ?_
    rintro en wA ⟨rfl, hbA'⟩
    have HbA := hide (Hb9.out.trans (hbA'.mono Hb9.out.size))
    clear hbA' Hb9 HE2
    go_wp2_with fail
    refine (HE3.out wA HbA.out).mono ?_
    rintro en wB ⟨rfl, hbB'⟩
    have HbB := hide (HbA.out.trans (hbB'.mono HbA.out.size))
    clear hbB' HbA HE3
    go_wp2
    go_ret
    exact ⟨rfl, Hb8.out.trans (HbB.out.mono Hb8.out.size)⟩

end Go.Proofs.YtbicoknghdgahaaGreat

namespace Go.Proofs.YtbicoknghdgahaaGreat
open Go.ChangeShapes Go.WideShapes Go.ChangeAt Go.RowKit

set_option maxRecDepth 100000 in
theorem lift_true_up {os : Os} {f : FuncId} {fn : Func} {s : ChangeSpec} {conds : List PathCond} {H : Type} {enc : TypeId × Value → H} {apart fresh handsOn again : Bool} {F : Stop.Interp} (started : os.Started) (own : ownKnob Tryz.prog.godebug = none) (hl : laidOutB Tryz.prog = true)
  (noInit : Tryz.prog.inits.idxOf? f = none) (hfunc : Tryz.prog.funcs[f]? = some fn) (hrd : ∀ t ∈ fn.params.toList, Tryz.prog.readableRec t = true ∧ t < Tryz.prog.types.size) (hres : fn.resultTypes = #[4]) (hvars : s.vars = [])
  (hfn : ∀ ds : List (DataW H), ds.length = fn.params.size → s.fn H ds = { results := [.lit (.bool true)], args := ds })
  (witness : ∃ (w : World) (tape : Tape) (i : Input), w.os = os ∧ (w.forCall tape i).Shaped Tryz.prog ∧ i.vars = [] ∧ Input.okWide Tryz.prog (w.forCall tape i) .any w.heap.size f i ∧
   (Rows.OpenSpec.upto s).pre6 enc Tryz.prog fn conds apart (w.forCall tape i).memory i.args ∧ ({} : Assume).holds Tryz.prog (lone (Frame.enter Tryz.prog f i.args .normal) [] (w.forCall tape i)))
  (hcalls : ∀ (W : World) (base : Nat) (args : Array Value) (ds : List (DataW H)) (ps : List MemPlace), (∀ (j : Nat) t v, fn.params[j]? = some t → args[j]? = some v → Value.okWide Tryz.prog W .any base t v) → DataW.TrodAll enc Tryz.prog W 0 (fun _ => true) true fn.params.toList args.toList ds ps →
   SmallEach fn.params.toList ds → Rows.uptoBulkAll ds ≤ 1048576 → Calls Tryz.prog f args W fun e W' => e = .returned (.bool true) ∧ Below W.heap.size W W') :
  ReturnsInHanded {} Tryz.checked os f .any ((Rows.OpenSpec.upto s).pre6 enc Tryz.prog fn conds apart) (((Rows.OpenSpec.upto s).at F).post enc Tryz.prog fn apart fresh handsOn again) := by
 refine returnsInHanded_of_cond_sized (C := Tryz.checked) (s := Rows.OpenSpec.upto s) (k := Rows.uptoSmall) rfl own started noInit hfunc witness ?_
 intro W base args ds gs before hval hW _ hk hsz _
 have hW1 : DataW.Whole enc Tryz.prog fn.params.toList s.vars apart W args.toList ds gs before := hW
 have hW0 := hW1
 obtain ⟨p, q, hA, hV, hpq, hz, hn⟩ := hW0
 rw [hvars] at hV
 obtain ⟨rfl, rfl⟩ := trodVars_none hV
 have hvt : (Rows.OpenSpec.upto s).bare.plain.varTypes Tryz.checked.prog = [] := by
  unfold DataSpec.varTypes
  rw [show (Rows.OpenSpec.upto s).bare.plain.vars = [] from hvars]
  rfl
 rw [hvt, List.append_nil, List.append_nil] at hsz
 rw [List.append_nil] at hk
 have hlen : ds.length = fn.params.size := by
  have := trodAll_len hA
  simpa using this.2
 refine (hcalls W base args ds p hval hA (smallEach_of hsz) (of_decide_eq_true hk)).mono ?_
 rintro e W' ⟨rfl, hb⟩
 exact ⟨_, rfl, post_true hl hrd hres Tryz.underlying4 hvars (by rw [List.append_nil]; exact hfn ds hlen) hW1 hb⟩

section
variable {H : Type} {enc : TypeId × Value → H} {w : World}
theorem bulk_one (d : DataW H) : 1 ≤ Rows.uptoBulk d := by
 cases d with
 | lit l => cases l <;> simp [Rows.uptoBulk]
 | nil => simp [Rows.uptoBulk]
 | ptr d => simp [Rows.uptoBulk]
 | slice elems spare => simp [Rows.uptoBulk]
 | agg parts => simp [Rows.uptoBulk]
 | iface t d => simp [Rows.uptoBulk]
 | map entries => simp [Rows.uptoBulk]
 | held h => simp [Rows.uptoBulk]
theorem bulk_part {d : DataW H} {l : List (DataW H)} (h : d ∈ l) : Rows.uptoBulk d ≤ Rows.uptoBulkAll l := by
 induction l with
 | nil => cases h
 | cons x r ih =>
  simp only [Rows.uptoBulkAll]
  cases List.mem_cons.1 h with
  | inl e => subst e; omega
  | inr e => have := ih e; omega
theorem bulk_length (l : List (DataW H)) : l.length ≤ Rows.uptoBulkAll l := by
 induction l with
 | nil => simp [Rows.uptoBulkAll]
 | cons x r ih => have := bulk_one x; simp only [Rows.uptoBulkAll, List.length_cons]; omega

theorem open_slice_b {t e : TypeId} {size bytes : Nat} {fuel : Nat} {cs : List Value} {d : DataW H} {ps : List MemPlace} (hu : Tryz.prog.underlying t = some (.slice e)) (hsz : Tryz.prog.cellsOf e = size) (hby : Tryz.prog.bytesOf e = bytes) (hpos : 0 < size)
  (h : DataW.trod enc Tryz.prog w 0 (fun _ => true) true fuel t cs = some (d, ps)) (hw : Small t d) :
  ∃ (A : Option Addr) (len cap n : Nat) (L : List (List Value)), fuel = n + 1 ∧ cs = [.slice A len cap] ∧ len ≤ cap ∧ cap ≤ maxLen ∧ len * bytes ≤ R47 ∧ L.length = len ∧ Row (Old w) w size A len L.flatten ∧ (∀ x ∈ L, x.length = size) ∧ len ≤ Rows.uptoBulk d ∧
   ∀ (i : Nat) (x : List Value), L[i]? = some x → ∃ d' p', DataW.trod enc Tryz.prog w 0 (fun _ => true) true n e x = some (d', p') ∧ Small e d' ∧ Rows.uptoBulk d' ≤ Rows.uptoBulk d := by
 obtain ⟨n0, rfl⟩ : ∃ n0, fuel = n0 + 1 := by
  cases fuel with
  | zero => simp [DataW.trod] at h
  | succ n => exact ⟨n, rfl⟩
 rcases DataW.trod_slice hu h with ⟨rfl, hx⟩ | ⟨a, len, cap, elems, rest, n, hn, rfl, hx, hb, hl, hm, hlen, hel, hsp⟩
 ·exact ⟨none, 0, 0, n0, [], rfl, rfl, Nat.le_refl _, by decide, by simp, rfl, Row.nil_, by simp, Nat.zero_le _, by simp⟩
 have hd : d = .slice (elems.map (·.1)) (rest.map (·.1)) := congrArg Prod.fst hx
 subst hd
 obtain ⟨w1, w2⟩ := hw.slice hu
 rw [hby] at w1
 simp only [List.length_map, hlen] at w1
 have hall : ∀ i, i < len → ∃ x, (∃ p, elems[i]? = some p ∧ w.cells? 0 (a.add (i * size)) size = some x ∧ DataW.trod enc Tryz.prog w 0 (fun _ => true) true n e x = some p) := by
  intro i hi
  have := hel i hi
  rw [List.getElem?_eq_getElem (by omega), hsz] at this
  obtain ⟨x, hx1, hx2⟩ := Option.bind_eq_some_iff.1 this
  exact ⟨x, _, List.getElem?_eq_getElem (by omega), hx1, hx2⟩
 obtain ⟨f, hf⟩ := Deep.choose_lt hall
 have hL : ∀ i x, ((List.range len).map f)[i]? = some x → i < len ∧ x = f i := by
  intro i x hi
  rw [List.getElem?_map] at hi
  obtain ⟨j, hj, rfl⟩ := Option.map_eq_some_iff.1 hi
  obtain ⟨hj1, hj2⟩ := List.getElem?_eq_some_iff.1 hj
  simp at hj1 hj2
  subst hj2
  exact ⟨hj1, rfl⟩
 have hsz' : ∀ x ∈ (List.range len).map f, x.length = size := by
  intro x hx
  obtain ⟨i, hi, rfl⟩ := List.mem_map.1 hx
  obtain ⟨p, _, h2, _⟩ := hf i (List.mem_range.1 hi)
  exact (World.cells?_some h2).2.1
 have hbk := bulk_length (elems.map (·.1))
 rw [List.length_map, hlen] at hbk
 refine ⟨some a, len, cap, n, (List.range len).map f, by omega, rfl, hl, hm, ?_, by simp, ?_, hsz', ?_, ?_⟩
 ·exact Nat.le_trans (Nat.mul_le_mul_right _ (by omega)) w1
 ·refine row_open hpos (by simp) hsz' fun i x hi j hj => ?_
  obtain ⟨hi1, rfl⟩ := hL i x hi
  obtain ⟨p, _, h2, _⟩ := hf i hi1
  have := (World.cells?_some h2).2.2 j hj
  rw [Deep.add_add] at this
  exact this
 ·simp only [Rows.uptoBulk]; omega
 ·intro i x hi
  obtain ⟨hi1, rfl⟩ := hL i x hi
  obtain ⟨p, h1, _, h3⟩ := hf i hi1
  have hmem : p.1 ∈ elems.map (·.1) := List.mem_map.2 ⟨p, List.mem_of_getElem? h1, rfl⟩
  exact ⟨p.1, p.2, h3, w2.part hmem, by have := bulk_part hmem; simp only [Rows.uptoBulk]; omega⟩
theorem bulk_str {s : ByteArray} : s.size ≤ Rows.uptoBulk (DataW.lit (H := H) (.string s.data.toList)) := by
 simp only [Rows.uptoBulk]
 rw [show s.size = s.data.toList.length from by rw [ByteArray.size, Array.length_toList]]
 omega
end

end Go.Proofs.YtbicoknghdgahaaGreat
