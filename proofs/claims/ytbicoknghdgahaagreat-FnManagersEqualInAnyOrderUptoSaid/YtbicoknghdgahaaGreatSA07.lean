/- Parts: MngSp. -/
import Derived.Test.YtbicoknghdgahaaGreatSA05
set_option linter.unusedVariables false
set_option linter.unusedSimpArgs false
namespace Go.Proofs.YtbicoknghdgahaaGreat
open Go.RowKit
attribute [local go_sem] run_store_float

def NmAt (p : ByteArray × Unit) (cs : List Value) : Prop := ∃ v b A n c, cs = [.string p.1, .string v, .bool b, .slice A n c]
def NmsAt (F : Nat → Prop) (w : World) (l : List (ByteArray × Unit)) (A : Option Addr) (c : Nat) : Prop := l.length * 64 ≤ R47 ∧ l.length ≤ c ∧ c ≤ maxLen ∧ (∀ p ∈ l, p.1.size ≤ R47) ∧ ∃ xs, Row F w 4 A l.length xs ∧ Cells 4 NmAt l xs
theorem NmsAt.keeps {F : Nat → Prop} {w w' : World} {l : List (ByteArray × Unit)} {A : Option Addr} {c : Nat} (h : NmsAt F w l A c) (hk : Keeps F w w') : NmsAt F w' l A c := by
 obtain ⟨h1, h2, h3, h0, xs, h4, h5⟩ := h
 exact ⟨h1, h2, h3, h0, xs, h4.keeps hk, h5⟩
theorem NmsAt.mono {F G : Nat → Prop} {w : World} {l : List (ByteArray × Unit)} {A : Option Addr} {c : Nat} (h : NmsAt F w l A c) (hk : ∀ b, F b → G b) : NmsAt G w l A c := by
 obtain ⟨h1, h2, h3, h0, xs, h4, h5⟩ := h
 exact ⟨h1, h2, h3, h0, xs, h4.mono hk, h5⟩
theorem nm_ones {l : List (ByteArray × Unit)} {xs : List Value} (h : Cells 4 NmAt l xs) : ∀ u ∈ xs, u.oneCell' = true :=
 h.ones (by omega) fun p cs ⟨v, b, A, n, c, e⟩ u hu => by
  subst e
  simp only [List.mem_cons, List.not_mem_nil, or_false] at hu
  rcases hu with rfl | rfl | rfl | rfl <;> rfl

set_option maxRecDepth 100000 in
set_option maxHeartbeats 4000000 in
theorem managerIndex_calls {l : List (ByteArray × Unit)} (hs : Sorted l) {A : Option Addr} {c : Nat} {w : World} (h : NmsAt (Old w) w l A c) {k : ByteArray} (hk : k.size ≤ R47) :
  Calls Tryz.prog 133 #[.slice A l.length c, .string k] w fun e w' => e = .returned (.tuple #[.int .i64 (cnt k l : Nat), .bool (found k l)]) ∧ Below w.heap.size w w' := by
 obtain ⟨h1, h2, h3, hsz, xs, h4, h5⟩ := h
 have h1' : l.length * 64 ≤ 140737488351232 := h1
 have H7 := hide (And.intro h4 (And.intro h5 (And.intro hs hsz)))
 have hcl := cnt_le k l
 have Hk := hide hk
 clear h1 h4 h5 hs hsz hk
 go_enter Tryz.func133, Tryz.ntmps133
 go_wp2_with fail
 go_loopw [6] (fun s W => ∃ i : Nat, s = .int .i64 (i : Int) ∧ i ≤ cnt k l ∧ Below w.heap.size w W) (fun s _ => cnt k l + 1 - (intOf s).toNat)
 case atStart => exact ⟨0, rfl, Nat.zero_le _, Below.refl _ _⟩
 case round =>
  obtain ⟨i, rfl, hi, hb⟩ := hrel
  have hii0 : (0 : Int) ≤ (i : Int) := Int.natCast_nonneg _
  by_cases hlt : i < l.length
  ·have hki1 : (i : Int) < (l.length : Int) := by omega
   have hx := H7.out.2.1.at_ hlt
   have hiff := cnt_lt (k := k) H7.out.2.2.1 i hlt
   have hns := H7.out.2.2.2 _ (List.getElem_mem hlt)
   have hfd : i = cnt k l → found k l = ((l[i]).1.toList == k.toList) := by
    rintro rfl
    unfold found
    rw [List.getElem?_eq_getElem hlt, Bool.eq_iff_iff]
    simp only [Option.map_some, Option.some.injEq, decide_eq_true_eq, beq_iff_eq]
    constructor
    ·intro h; rw [h]
    ·intro h; rw [Lib.toList_data, Lib.toList_data] at h; exact bytes_ext (by simpa using h)
   generalize l[i] = fx at *
   generalize hcs : (xs.drop (i * 4)).take 4 = fcs at hx
   obtain ⟨v, bb, PA, pn, pc, rfl⟩ := hx
   obtain ⟨rb, ro, rfl, hF, hc⟩ := rown_at H7.out.1 hlt hcs
   have hrb : rb < w.heap.size := hF
   have q0 := ((bcell hb).1 _ _ hF).trans (hc 0 _ rfl)
   have HC0 := hide (hc 0 _ rfl)
   rw [Nat.add_zero] at q0
   have HC := hide (specStrings_calls fx.1 k hns Hk.out)
   have Hb := hide hb
   have Hf := hide (And.intro hiff hfd)
   clear hb hc hcs hF hiff hfd hns
   go_wp2_with fail
   refine (HC.out wr).mono ?_
   rintro en w2 ⟨rfl, hb2⟩
   have q1 := ((bcell hb2).1 _ _ (Nat.lt_of_lt_of_le hrb Hb.out.size)).trans q0
   have Hb2 := hide (Hb.out.trans (hb2.mono Hb.out.size))
   clear q0 hb2 Hb HC
   by_cases hkl : klt fx.1 k = true
   ·have hcm : cmpS fx.1 k < 0 := cmpS_neg.2 hkl
    have hd : decide (cmpS fx.1 k < 0) = true := decide_eq_true hcm
    have hnx : i + 1 ≤ cnt k l := by have := Hf.out.1.1 hkl; omega
    clear q1 hkl
    go_wp2_with fail
    exact ⟨⟨i + 1, by go_num, hnx, Hb2.out⟩, by simp [intOf]; omega⟩
   ·have hcm : ¬ cmpS fx.1 k < 0 := fun h => hkl (cmpS_neg.1 h)
    have hd : decide (cmpS fx.1 k < 0) = false := decide_eq_false hcm
    have he : i = cnt k l := by
     rcases Nat.lt_or_ge i (cnt k l) with h | h
     ·exact absurd (Hf.out.1.2 h) hkl
     ·omega
    have Hq := hide (And.intro he (Hf.out.2 he))
    have hc1 : ((i : Int) < (l.length : Int)) = True := eq_true hki1
    clear hkl Hf he
    go_wp2_with fail
    go_quiet (fail)
    go_wp2
    go_ret2
    refine ⟨?_, below_drewN Hb2.out _⟩
    rw [Hq.out.2, ← Hq.out.1]
    rfl
  ·have hki1 : ¬ (i : Int) < (l.length : Int) := by omega
   have hd : decide ((i : Int) < (l.length : Int)) = false := decide_eq_false hki1
   have he : i = cnt k l := by omega
   have hfd : found k l = false := by
    unfold found
    rw [List.getElem?_eq_none (by omega)]; simp
   have Hq := hide (And.intro he hfd)
   have Hb := hide hb
   clear hb he hfd
   go_wp2_with fail
   go_quiet (fail)
   go_wp2
   go_ret2
   refine ⟨?_, below_drewN Hb.out _⟩
   rw [Hq.out.2, ← Hq.out.1]
   rfl

theorem mg_info : (Tryz.prog.info? 51).map (fun i => (i.zero, i.size, i.bytes)) = some (some (.agg #[.string ⟨#[]⟩, .string ⟨#[]⟩, .bool false, .slice none 0 0]), 4, 64) := by kernel_rfl

def GivesNms (l : List (ByteArray × Unit)) (w : World) (en : Ending) (w' : World) : Prop := ∃ B d, en = .returned (.slice B l.length d) ∧ NmsAt (Fr w.heap.size w') w' l B d ∧ Below w.heap.size w w'

theorem nms_ins {l : List (ByteArray × Unit)} {xs : List Value} {k v : ByteArray} {b : Bool} {PA : Option Addr} {pn pc d : Nat} (h : Cells 4 NmAt l xs) (hd : d = if found k l = true then cnt k l + 1 else cnt k l) :
  Cells 4 NmAt (ins k () l) ((xs.take (cnt k l * 4) ++ [.string k, .string v, .bool b, .slice PA pn pc]) ++ xs.drop (d * 4)) := by
 subst hd
 have e1 : ins k () l = (l.take (cnt k l) ++ [(k, ())]) ++ l.drop (if found k l = true then cnt k l + 1 else cnt k l) := by
  rw [ins_eq]
  simp only [found, decide_eq_true_eq, List.append_assoc, List.cons_append, List.nil_append]
 rw [e1]
 exact Cells.append (Cells.append (h.take _ (cnt_le k l)) (Cells.one ⟨v, b, PA, pn, pc, rfl⟩ rfl)) (h.drop_ _)
theorem nms_len {l : List (ByteArray × Unit)} {k : ByteArray} {d : Nat} (hd : d = if found k l = true then cnt k l + 1 else cnt k l) : (ins k () l).length = cnt k l + 1 + (l.length - d) := by
 subst hd
 rw [ins_eq]
 simp only [found, decide_eq_true_eq, List.length_append, List.length_take, List.length_cons, List.length_drop]
 have := cnt_le k l
 omega

set_option maxRecDepth 100000 in
set_option maxHeartbeats 8000000 in
theorem withManager_calls {l : List (ByteArray × Unit)} (hs : Sorted l) {A : Option Addr} {c : Nat} {w : World} (h : NmsAt (Old w) w l A c) {k v : ByteArray} {b : Bool} {PA : Option Addr} {pn pc : Nat} (hk : k.size ≤ R47) (hl : (l.length + 1) * 64 ≤ R47) :
  Calls Tryz.prog 83 #[.slice A l.length c, .agg #[.string k, .string v, .bool b, .slice PA pn pc]] w (GivesNms (ins k () l) w) := by
 have hb0 : Below w.heap.size w (w.alloc (.cells #[.string k, .string v, .bool b, .slice PA pn pc] 51)) := (Below.refl _ _).alloc (Nat.le_refl _) _
 have HM := hide (managerIndex_calls hs ((h.keeps (Keeps.below hb0 fun _ h => h)).mono fun _ h => Nat.lt_of_lt_of_le h hb0.size) hk)
 obtain ⟨h1, h2, h3, hsz, xs, h4, h5⟩ := h
 obtain ⟨i9, hi9, hz9, hs9, hb9⟩ := info_parts mg_info
 have hl' : (l.length + 1) * 64 ≤ 140737488351232 := hl
 have hcl := cnt_le k l
 have X0 := Bk.new w 51 #[.string k, .string v, .bool b, .slice PA pn pc]
 have H7 := hide (And.intro h4 (And.intro h5 (And.intro (nm_ones h5) (And.intro hsz hk))))
 have H0 := hide (And.intro hb0 X0)
 obtain ⟨d, hd⟩ : ∃ d, d = if found k l = true then cnt k l + 1 else cnt k l := ⟨_, rfl⟩
 have hdl : d ≤ l.length := by
  rw [hd]
  split
  ·rename_i hf
   unfold found at hf
   rw [decide_eq_true_iff] at hf
   rcases Nat.lt_or_ge (cnt k l) l.length with h1 | h1
   ·exact h1
   ·rw [List.getElem?_eq_none h1] at hf
    cases hf
  ·exact hcl
 have Hd := hide hd
 have Hc := hide (show ∀ f, found k l = f → d = if f = true then cnt k l + 1 else cnt k l from fun f hf => by rw [hd, hf])
 clear h1 h4 h5 hsz hk hb0 X0 hs hl hd
 obtain ⟨cn, hcn⟩ : ∃ cn, cnt k l = cn := ⟨_, rfl⟩
 obtain ⟨fd, hfd⟩ : ∃ fd, found k l = fd := ⟨_, rfl⟩
 obtain ⟨n, hn⟩ : ∃ n, l.length = n := ⟨_, rfl⟩
 have Hn := hide (And.intro hcn (And.intro hfd hn))
 have hdc := Hc.out fd hfd
 clear Hc
 rw [hcn, hfd, hn] at HM
 rw [hcn] at hdc hcl
 rw [hn] at hl' hcl hdl h2 H7
 try rw [hn]
 clear hcn hfd hn
 go_enter Tryz.func83, Tryz.ntmps83
 go_wp2_with fail
 refine HM.out.mono ?_
 rintro en w1 ⟨rfl, hb1⟩
 have hbw1 : Below w.heap.size w w1 := H0.out.1.trans (hb1.mono H0.out.1.size)
 have X1 : Bk w1 w.heap.size 51 #[.string k, .string v, .bool b, .slice PA pn pc] := H0.out.2.below hb1 (by rw [World.size_alloc]; omega)
 have hx1 : w.heap.size < w1.heap.size := X1.lt
 have hb2 : Below w.heap.size w (w1.alloc (.cells #[] 51)) := hbw1.alloc hbw1.size _
 have hown0 := World.ownsRow_lit (base := w.heap.size) (e := 51) (size := 4) w1 #[] 0 (by omega) (by simp [maxLen]) (by simp)
 have H1 := hide (And.intro hb2 (And.intro hown0 (And.intro (H7.out.1.keeps (Keeps.below hb2 fun _ h => h)) (X1.alloc (.cells #[] 51)))))
 clear hb1 hbw1 X1 hb2 hown0 HM H0
 have hc0 : (0 : Int) ≤ (cn : Int) := Int.natCast_nonneg _
 have hc1 : (cn : Int) ≤ (n : Int) := by omega
 have hc2 : (cn : Int) ≤ (c : Int) := by omega
 go_wp2_with (at_builtin; go_loud (refine wpList_append_row _ rfl (.tmp 15) (.tmp 18) 47 rfl w.heap.size 51 i9 _ 4 64 Tryz.underlying47 hi9 hz9 hs9 hb9 rfl (by omega) (.slice (some ⟨w1.heap.size, 0, none⟩) 0 0) 0 [] rfl H1.out.2.1 (Old w) A cn c (xs.take (cn * 4)) rfl (H1.out.2.2.1.take hcl) (fun u hu => H7.out.2.2.1 u (List.mem_of_mem_take hu)) (by omega) (by omega) (by simp; omega) ?_))
 intro v2 w2 hown2 hg2 _
 try rw [List.nil_append] at hown2
 try rw [Nat.zero_add] at hown2
 have hb2 : Below w.heap.size w w2 := H1.out.1.grown hg2 (by simp; omega) fun g e => by
  have e1 : w1.heap.size = g := Option.some.inj e
  omega
 have X2 : Bk w2 w.heap.size 51 #[.string k, .string v, .bool b, .slice PA pn pc] := H1.out.2.2.2.grown hg2 fun e => by
  have e1 : w.heap.size = w1.heap.size := Option.some.inj e
  omega
 have x0 := X2.cell 0
 have x1 := X2.cell 1
 have x2 := X2.cell 2
 have x3 := X2.cell 3
 have hxl := X2.lt
 simp at x0 x1 x2 x3
 have hw2 := hb2.size
 obtain ⟨A2, c2, rfl, _, _⟩ := own_form hown2
 have H2 := hide (And.intro hb2 (And.intro hown2 (H7.out.1.keeps (Keeps.below hb2 fun _ h => h))))
 clear hb2 hown2 hg2 H1 X2
 go_wp2_with (at_builtin; go_loud (refine wpList_append_row _ rfl (.tmp 20) (.tmp 22) 47 rfl w.heap.size 51 i9 _ 4 64 Tryz.underlying47 hi9 hz9 hs9 hb9 rfl (by omega) (.slice A2 cn c2) cn _ rfl (H2.out.2.1.alloc _) (fun _ => True) (some ⟨w2.heap.size, 0, none⟩) 1 1 [.string k, .string v, .bool b, .slice PA pn pc] rfl (Row.of_bkp (Bk.new w2 51 ([.string k, .string v, .bool b, .slice PA pn pc] : List Value).toArray) rfl trivial) (by simp [Value.oneCell']) (by omega) (by omega) (by simp; omega) ?_))
 intro v3 w3 hown3 hg3 _
 have hb3 : Below w.heap.size w w3 := (H2.out.1.alloc hw2 _).grown hg3 (by simp; omega) fun g e => (H2.out.2.1.lt g e).1
 have hw3 := hb3.size
 obtain ⟨A3, c3, rfl, _, _⟩ := own_form hown3
 have H3 := hide (And.intro hb3 (And.intro hown3 ((H7.out.1.keeps (Keeps.below hb3 fun _ h => h)).drop (m := d) hdl h2)))
 clear hb3 hown3 hg3 H2 x0 x1 x2 x3
 have hd0 : (0 : Int) ≤ (d : Int) := Int.natCast_nonneg _
 have hd1 : (d : Int) ≤ (n : Int) := by omega
 have hd2 : (d : Int) ≤ (c : Int) := by omega
 generalize hAX : (if c = d then A else A.map (·.add (d * 4))) = AX at H3
 cases fd
 ·skip
  have hdd : cn = d := by simpa using hdc.symm
  have Hdd := hide hdc
  clear hdc
  subst hdd
  go_wp2_with (at_builtin; go_loud (refine wpList_append_row _ rfl (.tmp 27) (.tmp 30) 47 rfl w.heap.size 51 i9 _ 4 64 Tryz.underlying47 hi9 hz9 hs9 hb9 rfl (by omega) (.slice A3 (cn + 1) c3) (cn + 1) _ rfl H3.out.2.1 (Old w) _ (n - cn) (c - cn) (xs.drop (cn * 4)) rfl H3.out.2.2 (fun u hu => H7.out.2.2.1 u (List.mem_of_mem_drop hu)) (by omega) (by omega) (by omega) ?_))
  intro v4 w4 hown4 hg4 _
  have hb4 : Below w.heap.size w w4 := H3.out.1.grown hg4 hw3 fun g e => (H3.out.2.1.lt g e).1
  obtain ⟨A4, c4, rfl, q1, q2⟩ := own_form hown4
  have hlt4 := hown4.lt
  have hlen : (ins k () l).length = cn + 1 + (n - cn) := by
   have := nms_len Hd.out
   rw [Hn.out.1, Hn.out.2.2] at this
   exact this
  have hcell : Cells 4 NmAt (ins k () l) (xs.take (cn * 4) ++ .string k :: .string v :: .bool b :: .slice PA pn pc :: xs.drop (cn * 4)) := by
   have := nms_ins (k := k) (v := v) (b := b) (PA := PA) (pn := pn) (pc := pc) H7.out.2.1 Hd.out
   rw [Hn.out.1] at this
   simp only [List.append_assoc, List.cons_append, List.nil_append] at this
   exact this
  have hsmall : ∀ p ∈ ins k () l, p.1.size ≤ R47 := fun p hp => by
   rcases mem_ins hp with rfl | hp
   ·exact H7.out.2.2.2.2
   ·exact H7.out.2.2.2.1 p hp
  have hfin : NmsAt (Fr w.heap.size w4) w4 (ins k () l) A4 c4 := ⟨by rw [hlen]; unfold R47; omega, by rw [hlen]; exact q1, q2, hsmall, _, by rw [hlen]; exact Row.of_own hown4 hlt4, hcell⟩
  have Hf := hide (And.intro hfin (And.intro hb4 hlen))
  clear hown4 hg4 hb4 hlt4 hlen hcell hsmall hfin q1 q2 H3
  go_wp2
  go_ret
  exact ⟨A4, c4, by rw [Hf.out.2.2]; rfl, Hf.out.1, Hf.out.2.1⟩
 ·skip
  have hdd : (cn : Int) + 1 = (d : Int) := by have := hdc; simp at this; omega
  have Hdd := hide hdc
  clear hdc
  go_wp2_with (at_builtin; go_loud (refine wpList_append_row _ rfl (.tmp 27) (.tmp 30) 47 rfl w.heap.size 51 i9 _ 4 64 Tryz.underlying47 hi9 hz9 hs9 hb9 rfl (by omega) (.slice A3 (cn + 1) c3) (cn + 1) _ rfl H3.out.2.1 (Old w) _ (n - d) (c - d) (xs.drop (d * 4)) rfl H3.out.2.2 (fun u hu => H7.out.2.2.1 u (List.mem_of_mem_drop hu)) (by omega) (by omega) (by omega) ?_))
  intro v4 w4 hown4 hg4 _
  have hb4 : Below w.heap.size w w4 := H3.out.1.grown hg4 hw3 fun g e => (H3.out.2.1.lt g e).1
  obtain ⟨A4, c4, rfl, q1, q2⟩ := own_form hown4
  have hlt4 := hown4.lt
  have hlen : (ins k () l).length = cn + 1 + (n - d) := by
   have := nms_len Hd.out
   rw [Hn.out.1, Hn.out.2.2] at this
   exact this
  have hcell : Cells 4 NmAt (ins k () l) (xs.take (cn * 4) ++ .string k :: .string v :: .bool b :: .slice PA pn pc :: xs.drop (d * 4)) := by
   have := nms_ins (k := k) (v := v) (b := b) (PA := PA) (pn := pn) (pc := pc) H7.out.2.1 Hd.out
   rw [Hn.out.1] at this
   simp only [List.append_assoc, List.cons_append, List.nil_append] at this
   exact this
  have hsmall : ∀ p ∈ ins k () l, p.1.size ≤ R47 := fun p hp => by
   rcases mem_ins hp with rfl | hp
   ·exact H7.out.2.2.2.2
   ·exact H7.out.2.2.2.1 p hp
  have hfin : NmsAt (Fr w.heap.size w4) w4 (ins k () l) A4 c4 := ⟨by rw [hlen]; unfold R47; omega, by rw [hlen]; exact q1, q2, hsmall, _, by rw [hlen]; exact Row.of_own hown4 hlt4, hcell⟩
  have Hf := hide (And.intro hfin (And.intro hb4 hlen))
  clear hown4 hg4 hb4 hlt4 hlen hcell hsmall hfin q1 q2 H3
  go_wp2
  go_ret
  exact ⟨A4, c4, by rw [Hf.out.2.2]; rfl, Hf.out.1, Hf.out.2.1⟩

def GivesN (n : Nat) (w : World) (en : Ending) (w' : World) : Prop := ∃ B d, en = .returned (.slice B n d) ∧ Below w.heap.size w w'
def CMInv (w : World) (l : List Mgr) (s3 s8 : Value) (W : World) : Prop :=
 ∃ (k : Nat) (B : Option Addr) (d : Nat), s8 = .int .i64 (k : Int) ∧ k ≤ l.length ∧ s3 = .slice B (cleanN (l.take k)).length d ∧ NmsAt (Old W) W (cleanN (l.take k)) B d ∧ Below w.heap.size w W

set_option maxRecDepth 100000 in
set_option maxHeartbeats 8000000 in
theorem cleanManagers_calls {l : List Mgr} {A : Option Addr} {c : Nat} {w : World} (h : MgsAt (Old w) w l A c) (hok : TameM l) (hnm : ∀ m ∈ l, m.name.size ≤ R47) :
  Calls Tryz.prog 33 #[.slice A l.length c] w (GivesN (cleanN l).length w) := by
 obtain ⟨h1, h2, h3, xs, h4, h5⟩ := h
 have h1' : l.length * 64 ≤ 140737488351232 := h1
 have H7 := hide (And.intro h4 (And.intro h5 (And.intro hok hnm)))
 clear h1 h4 h5 hok hnm
 go_enter Tryz.func33, Tryz.ntmps33
 go_wp2_with fail
 go_loopw [3, 8] (fun s3 s8 W => CMInv w l s3 s8 W) (fun _ s _ => l.length - (intOf s).toNat)
 case atStart => exact ⟨0, none, 0, rfl, Nat.zero_le _, rfl, ⟨by simp [cleanN], Nat.le_refl _, Nat.zero_le _, (fun p hp => by cases hp), [], Row.nil_, Cells.nil_⟩, Below.refl _ _⟩
 case round =>
  obtain ⟨k, B, d, rfl, hk, rfl, hnms, hb⟩ := hrel
  by_cases hlt : k < l.length
  ·have hki0 : (0 : Int) ≤ (k : Int) := Int.natCast_nonneg _
   have hki1 : (k : Int) < (l.length : Int) := by omega
   have hx := H7.out.2.1.at_ hlt
   have hmem := List.getElem_mem hlt
   have hsn : cleanN (l.take (k + 1)) = ins (l[k]).name () (cleanN (l.take k)) := by rw [List.take_succ_eq_append_getElem hlt, cleanN_snoc]
   have hlen := cleanN_length (l.take k)
   have hsrt := cleanN_sorted (l.take k)
   rw [List.length_take] at hlen
   generalize l[k] = fx at *
   generalize hcs : (xs.drop (k * 4)).take 4 = fcs at hx
   obtain ⟨PA, pc, rfl, hp⟩ := hx
   obtain ⟨rb, ro, rfl, hF, hc⟩ := rown_at H7.out.1 hlt hcs
   have ec := (bcell hb).1
   have q0 := (ec _ _ hF).trans (hc 0 _ rfl)
   have q1 := (ec _ _ hF).trans (hc 1 _ rfl)
   have q2 := (ec _ _ hF).trans (hc 2 _ rfl)
   have q3 := (ec _ _ hF).trans (hc 3 _ rfl)
   rw [Nat.add_zero] at q0
   have hrb : rb < w.heap.size := hF
   have HS := hide fun (W : World) (hb : Below w.heap.size w W) => setOf_calls (hp.at_ hb) (H7.out.2.2.1 fx hmem)
   have Hq := hide (And.intro hnms (And.intro hb (And.intro hsn (And.intro hsrt (H7.out.2.2.2 fx hmem)))))
   have hwe : w.heap.size ≤ wr.heap.size := hb.size
   have hlk : (cleanN (l.take k)).length ≤ k := by omega
   clear hnms hb hsn hp hcs hc ec hF hmem hsrt hlen
   generalize cleanN (l.take k) = cl at *
   obtain ⟨wo, hwo⟩ : ∃ W, W = wr := ⟨_, rfl⟩
   subst hwo
   obtain ⟨pn, hpn⟩ : ∃ pn, fx.set.length = pn := ⟨_, rfl⟩
   rw [hpn] at HS q3
   clear hpn
   go_upto_region 5 with fail
   have hbA : Below wo.heap.size wo (wo.alloc (.cells #[.string fx.name, .string fx.ver, .bool fx.app, .slice PA pn pc] 51)) := (Below.refl _ _).alloc (Nat.le_refl _) _
   have hX := Bk.new wo 51 #[.string fx.name, .string fx.ver, .bool fx.app, .slice PA pn pc]
   clear q0 q1 q2 q3
   generalize hw1 : World.alloc wo _ = w1 at hbA hX ⊢
   have x0 := hX.cell 0
   have x1 := hX.cell 1
   have x2 := hX.cell 2
   have x3 := hX.cell 3
   have hxl := hX.lt
   simp at x0 x1 x2 x3
   have H1 := hide (And.intro hbA hX)
   clear hw1 hbA hX
   go_wp2_with fail
   refine (HS.out w1 (Hq.out.2.1.trans (H1.out.1.mono hwe))).mono ?_
   rintro en w2 ⟨B2, d2, rfl, hp2, hb2⟩
   have hX2 : Bk w2 wo.heap.size 51 #[.string fx.name, .string fx.ver, .bool fx.app, .slice PA pn pc] := H1.out.2.below hb2 hxl
   have x0 := hX2.cell 0
   have x1 := hX2.cell 1
   have x2 := hX2.cell 2
   have x3 := hX2.cell 3
   have hxf : ∀ i, w2.frozen? ⟨wo.heap.size, i, none⟩ = false := fun i => hX2.free i
   have hxl2 : wo.heap.size < w2.heap.size := hX2.lt
   simp at x0 x1 x2 x3
   have hbo2 : Below wo.heap.size wo w2 := H1.out.1.trans (hb2.mono (by omega))
   have H2 := hide (And.intro hbo2 hX2)
   clear hp2 hb2 HS H1 hbo2 hX2
   generalize ((specS (pels fx.set)).map (List.map E.toREl)).length = pn2 at *
   go_upto_region 6 with fail
   have hX3 := H2.out.2.set_ 3 (.slice B2 pn2 d2)
   have hb3 : Below wo.heap.size wo (w2.setCell ⟨wo.heap.size, 3, none⟩ (.slice B2 pn2 d2)) := H2.out.1.setCell (Nat.le_refl _) _
   clear x0 x1 x2 x3 hxf
   generalize hw3 : World.setCell w2 _ _ = w3 at hX3 hb3 ⊢
   have x0 := hX3.cell 0
   have x1 := hX3.cell 1
   have x2 := hX3.cell 2
   have x3 := hX3.cell 3
   have hxl3 := hX3.lt
   simp at x0 x1 x2 x3
   have hn3 : NmsAt (Old w3) w3 cl B d := (Hq.out.1.keeps (Keeps.below hb3 fun _ h => h)).mono fun _ h => Nat.lt_of_lt_of_le h hb3.size
   have HW := hide (withManager_calls (v := fx.ver) (b := fx.app) (PA := B2) (pn := pn2) (pc := d2) Hq.out.2.2.2.1 hn3 Hq.out.2.2.2.2 (by unfold R47; omega))
   have H3 := hide (Hq.out.2.1.trans (hb3.mono hwe))
   clear hw3 hb3 hX3 hn3 H2
   go_wp2_with fail
   refine HW.out.mono ?_
   rintro en w4 ⟨B4, d4, rfl, hn4, hb4⟩
   have Hf := hide (show CMInv w l (.slice B4 (ins fx.name () cl).length d4) (.int .i64 ((k + 1 : Nat) : Int)) w4 from ⟨k + 1, B4, d4, rfl, by omega, by rw [Hq.out.2.2.1], by rw [Hq.out.2.2.1]; exact hn4.mono fun b hb => hb.2, H3.out.trans (hb4.mono H3.out.size)⟩)
   clear hn4 hb4 HW H3 Hq x0 x1 x2 x3
   go_wp2_with fail
   exact ⟨Hf.out, by simp [intOf]; omega⟩
  ·have hke : k = l.length := by omega
   subst hke
   have hki1 : ¬ ((l.length : Nat) : Int) < (l.length : Int) := by omega
   rw [List.take_of_length_le (Nat.le_refl _)]
   have H3 := hide hb
   clear hb hnms
   go_wp2
   go_ret
   exact ⟨B, d, rfl, H3.out⟩

end Go.Proofs.YtbicoknghdgahaaGreat
