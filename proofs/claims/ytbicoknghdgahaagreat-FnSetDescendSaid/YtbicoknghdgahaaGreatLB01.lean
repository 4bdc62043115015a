/- Parts: SetBelowP, SetBelow, Small. -/
import Derived.Test.YtbicoknghdgahaaGreatKB16
import Derived.Test.YtbicoknghdgahaaGreatKD07
import Derived.Test.YtbicoknghdgahaaGreatKE01
set_option linter.unusedVariables false
set_option linter.unusedSimpArgs false
namespace Go.Proofs.YtbicoknghdgahaaGreat

def putAll (more : List (List E)) (t : St) : St := more.foldl (fun s p => St.ins p s) t
theorem putAll_wf {more : List (List E)} (h : ∀ p ∈ more, POk p) {t : St} (ht : t.WF) : (putAll more t).WF := by
 induction more generalizing t with
 | nil => exact ht
 | cons p l ih => exact ih (fun q hq => h q (by simp [hq])) (ins_wf ht (h p (by simp)))
theorem putAll_snoc (more : List (List E)) (p : List E) (t : St) : putAll (more ++ [p]) t = St.ins p (putAll more t) := by simp [putAll]
def belowS (e : E) (more : List (List E)) (s : St) : St := .mk s.mem (insK e (putAll more) s.kids)
theorem belowS_wf {e : E} (he : e.Ok) {more : List (List E)} (h : ∀ p ∈ more, POk p) {s : St} (hs : s.WF) : (belowS e more s).WF := by
 cases hs with
 | mk h1 h2 h3 h4 h5 =>
  refine .mk h1 h2 (insK_keys he h3) (insK_sorted he h3 h4) fun k hk => ?_
  rcases mem_insK hk with rfl | ⟨k', h6, rfl⟩ | hk
  ·exact putAll_wf h .empty_
  ·exact putAll_wf h (h5 k' h6)
  ·exact h5 k hk
theorem has_belowS {e : E} (he : e.Ok) {more : List (List E)} (h : ∀ p ∈ more, POk p) {s : St} (hs : s.WF) {x : List E} (hx : POk x) (hx0 : x ≠ []) : (belowS e more s).Has x ↔ s.Has x ∨ ∃ p ∈ more, p ≠ [] ∧ wcmp (e :: p) x = 0 := by
 have hw := belowS_wf he h hs
 cases x with
 | nil => exact absurd rfl hx0
 | cons a x =>
  have ha := hx a (by simp)
  by_cases hx1 : x = []
  ·subst hx1
   rw [has_one hw, has_one hs]
   constructor
   ·exact fun h => .inl h
   ·rintro (h1 | ⟨p, hp, hp0, h1⟩)
    ·exact h1
    ·have := wcmp_len h1
     simp at this
     exact absurd this hp0
  ·have hx' : POk x := fun z hz => hx z (by simp [hz])
   rw [has_cons hw ha hx1, has_cons hs ha hx1]
   cases hs with
   | @mk m ks h1 h2 h3 h4 h5 =>
    show (∃ t, findK a (insK e (putAll more) ks) = some t ∧ t.Has x) ↔ (∃ t, findK a ks = some t ∧ t.Has x) ∨ _
    rw [findK_insK he ha h3 h4]
    by_cases hea : E.cmp e a = 0
    ·rw [if_pos hea]
     have hwf : ((findK e ks).getD St.empty).WF := by
      cases hf : findK e ks with
      | none => exact .empty_
      | some t =>
       obtain ⟨k, hk, -, rfl⟩ := findK_mem hf
       exact h5 k hk
     have hfa : findK a ks = findK e ks := by
      cases hf : findK e ks with
      | none =>
       cases hg : findK a ks with
       | none => rfl
       | some t =>
        obtain ⟨k, hk, h6, -⟩ := findK_mem hg
        rw [findK_of he h3 h4 hk (E.ord_.eq_trans (h3 k hk) ha he h6 (E.ord_.eq_turn he ha hea))] at hf
        cases hf
      | some t =>
       obtain ⟨k, hk, h6, rfl⟩ := findK_mem hf
       exact findK_of ha h3 h4 hk (E.ord_.eq_trans (h3 k hk) he ha h6 hea)
     have hf := has_foldP h ((findK e ks).getD St.empty) hwf hx' hx1
     constructor
     ·rintro ⟨t, h6, h7⟩
      cases h6
      rcases hf.1 h7 with h8 | ⟨p, hp, h8⟩
      ·refine .inl ?_
       rw [hfa]
       cases hg : findK e ks with
       | none => rw [hg] at h8; exact absurd h8 (has_empty _)
       | some t => rw [hg] at h8; exact ⟨t, rfl, h8⟩
      ·exact .inr ⟨p, hp, fun e0 => hx1 (by subst e0; exact List.eq_nil_of_length_eq_zero (wcmp_len h8).symm), wcmp_cons.2 ⟨hea, h8⟩⟩
     ·rintro (⟨t, h6, h7⟩ | ⟨p, hp, hp0, h8⟩)
      ·refine ⟨_, rfl, hf.2 (.inl ?_)⟩
       rw [← hfa, h6]
       exact h7
      ·exact ⟨_, rfl, hf.2 (.inr ⟨p, hp, (wcmp_cons.1 h8).2⟩)⟩
    ·rw [if_neg hea]
     constructor
     ·exact fun h => .inl h
     ·rintro (h | ⟨p, hp, hp0, h8⟩)
      ·exact h
      ·exact absurd (wcmp_cons.1 h8).1 hea
theorem belowS_alike {ls : List (List E)} (h : ∀ p ∈ ls, POk p) {e : E} (he : e.Ok) {more : List (List E)} (hm : ∀ p ∈ more, POk p) :
  Alike wcmp (belowS e more (setP ls)).paths (specS (ls ++ (more.filter fun p => decide (p ≠ [])).map (e :: ·))) := by
 have hall : ∀ p ∈ ls ++ (more.filter fun p => decide (p ≠ [])).map (e :: ·), POk p := fun p hp => by
  rcases List.mem_append.1 hp with hp | hp
  ·exact h p hp
  ·obtain ⟨q, hq, rfl⟩ := List.mem_map.1 hp
   intro z hz
   rcases List.mem_cons.1 hz with rfl | hz
   ·exact he
   ·exact hm q (List.mem_filter.1 hq).1 z hz
 have hw := setP_wf h
 have hwb := belowS_wf he hm hw
 have hs := specS_ok hall
 refine alike_of wcmp_ord (paths_pok hwb) hs.1 (paths_sorted hwb) hs.2.1 fun x hx => ?_
 rw [specS_has hall hx]
 by_cases hx0 : x = []
 ·subst hx0
  constructor
  ·exact fun h1 => absurd h1 (has_nil hwb)
  ·rintro ⟨p, hp, hp0, e1⟩
   exact absurd (List.eq_nil_of_length_eq_zero (wcmp_len e1)) hp0
 rw [show HasC wcmp (belowS e more (setP ls)).paths x ↔ _ from has_belowS he hm hw hx hx0, has_setP h hx hx0]
 constructor
 ·rintro (⟨p, hp, e1⟩ | ⟨p, hp, hp0, e1⟩)
  ·exact ⟨p, List.mem_append_left _ hp, fun e0 => hx0 (by subst e0; exact List.eq_nil_of_length_eq_zero (wcmp_len e1).symm), e1⟩
  ·exact ⟨e :: p, List.mem_append_right _ (List.mem_map.2 ⟨p, List.mem_filter.2 ⟨hp, by simpa using hp0⟩, rfl⟩), by simp, e1⟩
 ·rintro ⟨p, hp, hp0, e1⟩
  rcases List.mem_append.1 hp with hp | hp
  ·exact .inl ⟨p, hp, e1⟩
  ·obtain ⟨q, hq, rfl⟩ := List.mem_map.1 hp
   exact .inr ⟨q, (List.mem_filter.1 hq).1, by simpa using (List.mem_filter.1 hq).2, e1⟩
end Go.Proofs.YtbicoknghdgahaaGreat

namespace Go.Proofs.YtbicoknghdgahaaGreat
open Go.RowKit
attribute [local go_sem] run_store_float

theorem putAll_count (more : List (List E)) : ∀ t : St, (putAll more t).paths.length ≤ t.paths.length + more.length := by
 induction more with
 | nil => exact fun t => Nat.le_refl _
 | cons p l ih =>
  intro t
  have h1 := ih (St.ins p t)
  have h2 := ins_count p t
  show (putAll l (St.ins p t)).paths.length ≤ _
  rw [List.length_cons]
  omega
theorem insK_countN {e : E} {n : Nat} {f : St → St} (h : ∀ t : St, (f t).paths.length ≤ t.paths.length + n) : ∀ ks : List (E × St), (St.pathsK (insK e f ks)).length ≤ (St.pathsK ks).length + n
 | [] => by
  have h0 := h St.empty
  have e0 : St.empty.paths.length = 0 := by simp [St.empty, St.paths, St.pathsK]
  simp only [insK, St.pathsK, List.length_append, List.length_map, List.length_nil]
  omega
 | (a, t) :: ks => by
  have h0 := h St.empty
  have e0 : St.empty.paths.length = 0 := by simp [St.empty, St.paths, St.pathsK]
  have ht := h t
  have ih := insK_countN (e := e) h ks
  rw [insK]
  split
  ·rw [St.pathsK, St.pathsK, List.length_append, List.length_append]; omega
  ·split
   ·simp only [St.pathsK, List.length_append, List.length_map]; omega
   ·simp only [St.pathsK, List.length_append, List.length_map]; omega
theorem belowS_count {e : E} {more : List (List E)} : ∀ s : St, (belowS e more s).paths.length ≤ s.paths.length + more.length
 | .mk m ks => by
  have := insK_countN (e := e) (n := more.length) (putAll_count more) ks
  simp only [belowS, St.paths, St.mem, St.kids, List.length_append, List.length_map]
  omega
theorem putAll_ht {n : Nat} {more : List (List E)} (h : ∀ p ∈ more, p.length ≤ n) : ∀ {t : St}, t.Ht n → (putAll more t).Ht n := by
 induction more with
 | nil => exact fun h => h
 | cons p l ih => exact fun {t} ht => ih (fun q hq => h q (by simp [hq])) (ins_ht ht (h p (by simp)))
theorem belowS_ht {n : Nat} {e : E} {more : List (List E)} (h : ∀ p ∈ more, p.length ≤ n + 1) {s : St} (hs : s.Ht (n + 1)) : (belowS e more s).Ht (n + 1 + 1) := by
 cases hs with
 | @mk _ m ks h1 =>
  refine .mk fun k hk => ?_
  rcases mem_insK hk with rfl | ⟨k', h6, rfl⟩ | hk
  ·exact putAll_ht h (St.Ht.empty_ n)
  ·exact putAll_ht h (h1 k' h6).succ
  ·exact (h1 k hk).succ
theorem putAll_all {P : E → Prop} {more : List (List E)} (h : ∀ p ∈ more, ∀ e ∈ p, P e) : ∀ {t : St}, t.All P → (putAll more t).All P := by
 induction more with
 | nil => exact fun h => h
 | cons p l ih => exact fun {t} ht => ih (fun q hq => h q (by simp [hq])) (ins_all ht (h p (by simp)))
theorem belowS_all {P : E → Prop} {e : E} {more : List (List E)} (he : P e) (h : ∀ p ∈ more, ∀ e ∈ p, P e) {s : St} (hs : s.All P) : (belowS e more s).All P := by
 cases hs with
 | @mk m ks h1 h2 h3 =>
  refine .mk h1 (fun k hk => ?_) fun k hk => ?_
  ·rcases mem_insK hk with rfl | ⟨k', h6, rfl⟩ | hk
   ·exact he
   ·exact h2 k' h6
   ·exact h2 k hk
  ·rcases mem_insK hk with rfl | ⟨k', h6, rfl⟩ | hk
   ·exact putAll_all h (St.All.empty_ P)
   ·exact putAll_all h (h3 k' h6)
   ·exact h3 k hk
theorem putAll_le {more : List (List E)} : ∀ {t : St} {n : Nat}, t.Le n → (putAll more t).Le (n + more.length) := by
 induction more with
 | nil => exact fun h => h
 | cons p l ih =>
  intro t n h
  have := ih (ins_le (p := p) h)
  rw [List.length_cons]
  exact this.mono (by omega)
def FB (F : Nat → Prop) (n : Nat) (Dk : Nat → Prop) (W : World) (b : Nat) : Prop := (F b ∨ n ≤ b) ∧ b < W.heap.size ∧ ¬ Dk b
def SBInv (F : Nat → Prop) (w w4 : World) (gk : Nat) (Dk : Nat → Prop) (t : St) (ps : List (List E)) (s : Value) (W : World) : Prop :=
 ∃ (k : Nat) (D : Nat → Prop), s = .int .i64 (k : Int) ∧ k ≤ ps.length ∧ SetM (FB F w4.heap.size D W) W D gk (putAll (ps.take k) t) ∧ (∀ b, D b → (Dk b ∨ w4.heap.size ≤ b) ∧ b < W.heap.size) ∧ Below w.heap.size w W ∧ w4.heap.size ≤ W.heap.size ∧ ∀ b, b < w4.heap.size → ¬ Dk b → W.heap[b]? = w4.heap[b]?

set_option maxRecDepth 100000 in
set_option maxHeartbeats 8000000 in
theorem setBelow_calls {ls ms : List (List REl)} {r : REl} {cs : List Value} {A B : Option Addr} {c d : Nat} {w : World} (h : PathsAt (Old w) w ls A c) (hr : ElemAt (Old w) w r cs) (hm : PathsAt (Old w) w ms B d) (hok : ∀ p ∈ pels ls, POk p) (he : r.elem.Ok) (hmok : ∀ p ∈ pels ms, POk p) (hn : ls.length + ms.length + 1 ≤ N38) (hl8 : ∀ p ∈ pels ls, p.length ≤ 7 + 1) (hm8 : ∀ p ∈ pels ms, p.length ≤ 7 + 1) :
  Calls Tryz.prog 22 #[.slice A ls.length c, .agg cs.toArray, .slice B ms.length d] w (GivesPaths ((belowS r.elem (pels ms) (setP (pels ls))).paths.map (List.map E.toREl)) w) := by
 have hn' : ls.length + ms.length + 1 ≤ 274877906944 := hn
 have HTs := hide fun (W : World) (hb : Below w.heap.size w W) => toSet_calls (h.at_ hb) hok (by unfold N38; omega)
 have HE := hide fun (W : World) (hb : Below w.heap.size w W) => toElem_calls r W _ (hr.at_ hb)
 have hcn : (belowS r.elem (pels ms) (setP (pels ls))).paths.length * 24 ≤ R47 := by
  have h1 := belowS_count (e := r.elem) (more := pels ms) (setP (pels ls))
  have h2 := setP_count (pels ls)
  have h3 : (pels ls).length = ls.length := List.length_map _
  have h4 : (pels ms).length = ms.length := List.length_map _
  unfold R47
  omega
 have hpml : (pels ms).length = ms.length := List.length_map _
 have hle : (setP (pels ls)).Le ls.length := (setP_le hok).mono (by rw [show (pels ls).length = ls.length from List.length_map _]; exact Nat.le_refl _)
 have Hn := hide (And.intro (belowS_ht (e := r.elem) hm8 (setP_ht hl8)) (And.intro hcn (And.intro (setP_wf hok) (And.intro he (And.intro hmok (And.intro hpml hle))))))
 obtain ⟨-, -, -, zs, hz1, hz2⟩ := hm
 have HM := hide (And.intro hz1 hz2)
 obtain ⟨a0, a1, a2, a3, a4, a5, a6, a7, a8, a9, aa, ab, ac, ad, ae, af, ag, ah, ai, rfl⟩ := hr.form
 have hbx : Below w.heap.size w (w.alloc (.cells #[.int .i64 a0, .string a1, .slice a2 a3 a4, .slice a5 a6 a7, .int .i64 a8, .int .i64 a9, .float .f64 aa, .string ab, .slice ac ad ae, .slice af ag ah, .int .i64 ai] 29)) := (Below.refl _ _).alloc (Nat.le_refl _) _
 have hbox := Bk.new w 29 #[.int .i64 a0, .string a1, .slice a2 a3 a4, .slice a5 a6 a7, .int .i64 a8, .int .i64 a9, .float .f64 aa, .string ab, .slice ac ad ae, .slice af ag ah, .int .i64 ai]
 obtain ⟨w1, hw1⟩ : ∃ w1, w.alloc (.cells #[.int .i64 a0, .string a1, .slice a2 a3 a4, .slice a5 a6 a7, .int .i64 a8, .int .i64 a9, .float .f64 aa, .string ab, .slice ac ad ae, .slice af ag ah, .int .i64 ai] 29) = w1 := ⟨_, rfl⟩
 rw [hw1] at hbx hbox
 have hsz1 : w1.heap.size = w.heap.size + 1 := by rw [← hw1, World.size_alloc]
 have H1 := hide (And.intro hbx hbox)
 clear h hr hok he hn hcn hmok hz1 hz2 hbx hbox hpml hle hl8 hm8
 generalize r.elem = e at *
 generalize setP (pels ls) = s at *
 generalize ls.length = n at *
 obtain ⟨m, ks⟩ := s
 go_enter Tryz.func22, Tryz.ntmps22
 go_wp2_with fail
 try rw [hw1]
 refine (HTs.out w1 H1.out.1).mono ?_
 intro en w2 hg
 obtain ⟨rfl, D, hset, hD, hb2⟩ := hg
 have hs12 : w1.heap.size ≤ w2.heap.size := hb2.size
 have H2 := hide (And.intro hset (And.intro hD (And.intro (H1.out.1.trans (hb2.mono H1.out.1.size)) (H1.out.2.below hb2 H1.out.2.lt))))
 clear hset hD hb2 HTs
 go_wp2_with fail
 obtain ⟨S, hS⟩ : ∃ S, (fun W => Bk W w.heap.size 29 #[.int .i64 a0, .string a1, .slice a2 a3 a4, .slice a5 a6 a7, .int .i64 a8, .int .i64 a9, .float .f64 aa, .string ab, .slice ac ad ae, .slice af ag ah, .int .i64 ai]) = S := ⟨_, rfl⟩
 have hS0 : S w2.drew := by rw [← hS]; exact H2.out.2.2.2.drew
 refine wp_region_head 6 S (by rfl) (by kernel_rfl) ?_
 have hX := hide (show ∀ W : World, S W → Bk W w.heap.size 29 #[.int .i64 a0, .string a1, .slice a2 a3 a4, .slice a5 a6 a7, .int .i64 a8, .int .i64 a9, .float .f64 aa, .string ab, .slice ac ad ae, .slice af ag ah, .int .i64 ai] from fun W hSw => by rw [← hS] at hSw; exact hSw)
 iterate 4
  refine HT.nx (v := ?_) rfl (by kernel_rfl) (fun _ _ _ h => h) (Or.inl ⟨by rfl, ?_⟩) ‹_› ?_
  rotate_left
  ·intro W hSw; have hSw := hX.out W hSw; obtain ⟨s0, s1, s2, s3, s4, s5, s6, s7, s8, s9, s10⟩ := hSw.cells11; clear hSw; go_simp; with_reducible rfl
  simp only [Act.put, zzA, zzZ, zzS]
 clear hX
 refine HT.one 4 rfl (by kernel_rfl) (by rfl) (fun K hK => ?_)
 go_simp
 refine (HE.out w2.drew (below_drew H2.out.2.2.1)).mono ?_
 rintro en w3 ⟨ps, rfl, hp, hb3⟩
 obtain ⟨p0, p1, p2, p3, rfl⟩ := hp.form
 have hb3' : Below w2.heap.size w2 w3 := below_drew' hb3
 have hs23 : w2.heap.size ≤ w3.heap.size := hb3'.size
 have hS3 : S w3 := by
  rw [← hS]
  exact H2.out.2.2.2.below hb3' H2.out.2.2.2.lt
 obtain ⟨F, hFd⟩ : ∃ F : Nat → Prop, F = fun b => w1.heap.size ≤ b ∧ b < w3.heap.size ∧ ¬ D b := ⟨_, rfl⟩
 have hF : ∀ b, F b → b < w3.heap.size ∧ ¬ D b := fun b hb => by rw [hFd] at hb; exact hb.2
 have hD3 : ∀ b, D b → b < w3.heap.size := fun b hb => Nat.lt_of_lt_of_le (H2.out.2.1 b hb).2 hs23
 have hset3 : SetM F w3 D w1.heap.size (.mk m ks) := (H2.out.1.keeps (Keeps.below hb3' fun b hb => (H2.out.2.1 b hb).2) (Keeps.below hb3' fun b hb => hb.2.1)).mono fun b hb => by rw [hFd]; exact ⟨hb.1, by omega, hb.2.2⟩
 have hpe3 : PEAt F w3 e [.pointer p0, .pointer p1, .pointer p2, .pointer p3] := hp.mono fun b hb => by
  rw [hFd]
  have h1 : w2.heap.size ≤ b := hb.1
  exact ⟨by omega, hb.2, fun hd => by have := (H2.out.2.1 b hd).2; omega⟩
 have hkl : (ks.length + 1) * 40 ≤ R47 := by
  have := Hn.out.2.2.2.2.2.2
  cases this with
  | mk h1 h2 h3 => unfold R47; omega
 rw [hsz1] at hset3
 have HDs := hide (descend_calls hset3 hF hD3 Hn.out.2.2.1 Hn.out.2.2.2.1 hpe3 hkl)
 have H3 := hide (And.intro (H2.out.2.2.1.trans (hb3'.mono H2.out.2.2.1.size)) (And.intro hF (And.intro (fun b hb => (H2.out.2.1 b hb).1 : ∀ b, D b → w1.heap.size ≤ b) hFd)))
 clear hb3 hb3' hp hset3 hpe3 hF hD3 hkl HE H2 H1 hFd
 go_simp
 refine hK.out _ _ hS3 ?_
 clear hK
 refine HT.one 5 rfl (by kernel_rfl) (by rfl) (fun K hK => ?_)
 go_simp
 refine HDs.out.mono ?_
 rintro en w4 ⟨gk, Dk, D4, t, ctx, rfl, hs4, ht4, hc4, hdk4, hD4, hw4, ho4, htp4, hou4, hsz4, hfr4⟩
 have hb4 : Below w.heap.size w w4 := by
  have h1 := H3.out.1
  refine ⟨ho4.trans h1.os, htp4.trans h1.tape, hou4.trans h1.output, Nat.le_trans h1.size hsz4, fun b hb => ?_⟩
  rw [hfr4 b (by omega) fun hd => by have := H3.out.2.2.1 b hd; omega]
  exact h1.block b hb
 have hS4 : S w4 := by
  rw [← hS] at hS3 ⊢
  exact (hfr4 _ hS3.lt fun hd => by have := H3.out.2.2.1 _ hd; omega).trans hS3
 have hFD : ∀ b, F b → b < w4.heap.size ∧ ¬ Dk b := fun b hb => by
  have h1 := H3.out.2.1 b hb
  refine ⟨by omega, fun hd => ?_⟩
  rcases (hD4 b (hdk4 b hd)).1 with h2 | h2
  ·exact h1.2 h2
  ·omega
 have hDk : ∀ b, Dk b → w1.heap.size ≤ b ∧ b < w4.heap.size := fun b hd => by
  have h1 := hD4 b (hdk4 b hd)
  refine ⟨?_, h1.2⟩
  rcases h1.1 with h2 | h2
  ·exact H3.out.2.2.1 b h2
  ·omega
 have hwf4 : t.WF := wf_of_kid Hn.out.2.2.1 ht4
 have hle4 : t.Le n := le_of_kid Hn.out.2.2.2.2.2.2 ht4
 have hstart : SetM (FB F w4.heap.size Dk w4) w4 Dk gk (putAll ((pels ms).take 0) t) := hs4.mono fun b hb => ⟨.inl hb, hFD b hb⟩
 have H4 := hide (And.intro hw4 (And.intro hc4 (And.intro hD4 (And.intro hb4 (And.intro hFD (And.intro hDk (And.intro hwf4 (And.intro hle4 hstart))))))))
 clear hs4 ht4 hc4 hdk4 hD4 hw4 ho4 htp4 hou4 hfr4 hb4 hFD hDk hwf4 hle4 hstart HDs H3
 go_simp
 refine hK.out _ _ hS4 ?_
 clear hK
 refine HT.done (by kernel_rfl) ?_
 simp only [List.drop_succ_cons, List.drop_zero]
 clear hS0 hS3 hS4 hS
 go_wp2_with fail
 go_loopw [21] (fun s W => SBInv F w w4 gk Dk t (pels ms) s W) (fun s _ => ms.length - (intOf s).toNat)
 case atStart => exact ⟨0, Dk, rfl, Nat.zero_le _, H4.out.2.2.2.2.2.2.2.2, fun b hb => ⟨.inl hb, (H4.out.2.2.2.2.2.1 b hb).2⟩, H4.out.2.2.2.1, Nat.le_refl _, fun _ _ _ => rfl⟩
 case round =>
  obtain ⟨k, Dw, rfl, hk, hset, hDw, hb, hsz, hfr⟩ := hrel
  rw [Hn.out.2.2.2.2.2.1] at hk
  by_cases hlt : k < ms.length
  ·have hki0 : (0 : Int) ≤ (k : Int) := Int.natCast_nonneg _
   have hki1 : (k : Int) < (ms.length : Int) := by omega
   have hx := HM.out.2.at_ hlt
   have hsn : (pels ms).take (k + 1) = (pels ms).take k ++ [pel ms[k]] := by rw [List.take_succ_eq_append_getElem (by rw [Hn.out.2.2.2.2.2.1]; exact hlt)]; simp [pels]
   have hpo : POk (pel ms[k]) := Hn.out.2.2.2.2.1 _ (by simp [pels]; exact ⟨_, List.getElem_mem _, rfl⟩)
   generalize ms[k] = l at *
   obtain ⟨B', d', ecs, hl⟩ := hx
   obtain ⟨rb, ro, rfl, hF, hc⟩ := rown_at HM.out.1 hlt ecs
   have q0 := ((bcell hb).1 _ _ hF).trans (hc 0 _ rfl)
   rw [Nat.mul_one, Nat.add_zero] at q0
   have hrb : rb < w.heap.size := hF
   have HP := hide (toPath_calls (hl.at_ hb))
   have hok1 : ∀ p ∈ (pels ms).take k, POk p := fun p hp => Hn.out.2.2.2.2.1 p (List.mem_of_mem_take hp)
   have hwl := And.intro (putAll_wf hok1 H4.out.2.2.2.2.2.2.1) ((putAll_le (more := (pels ms).take k) H4.out.2.2.2.2.2.2.2.1).mono (n' := n + ms.length) (by rw [List.length_take]; omega))
   have Hq := hide (And.intro hset (And.intro hDw (And.intro hb (And.intro hsn (And.intro hpo (And.intro hwl hfr))))))
   have hgl : w.heap.size < wr.heap.size := by omega
   clear hset hDw hb hsn hpo hl ecs hc hF hok1 hwl hfr
   go_wp2_with fail
   refine HP.out.mono ?_
   rintro en w5 ⟨A1, c1, rfl, hp1, hb5⟩
   have hs5 := hb5.size
   have hset5 : SetM (FB F w4.heap.size Dw w5) w5 Dw gk (putAll ((pels ms).take k) t) :=
    (Hq.out.1.keeps (Keeps.below hb5 fun b hb => (Hq.out.2.1 b hb).2) (Keeps.below hb5 fun b hb => hb.2.1)).mono fun b hb => ⟨hb.1, by have := hb.2.1; omega, hb.2.2⟩
   have hp5 : PPathAt (FB F w4.heap.size Dw w5) w5 (pel l) A1 c1 := hp1.mono fun b hb => ⟨.inr (by have := hb.1; omega), hb.2, fun hd => by have := (Hq.out.2.1 b hd).2; have := hb.1; omega⟩
   have HI := hide (setInsert_calls hset5 (fun b hb => ⟨hb.2.1, hb.2.2⟩) (fun b hb => by have := (Hq.out.2.1 b hb).2; omega) Hq.out.2.2.2.2.2.1.1 Hq.out.2.2.2.2.2.1.2 (by unfold R47; omega) hp5 Hq.out.2.2.2.2.1)
   have H5 := hide hb5
   clear hp1 hp5 hset5 hb5 HP q0
   go_wp2_with fail
   refine HI.out.mono ?_
   rintro en w6 ⟨rfl, D', hset6, hD6, ho, htp, hou, hsz6, hfr6⟩
   have hset7 : SetM (FB F w4.heap.size D' w6) w6 D' gk (putAll ((pels ms).take (k + 1)) t) := by
    rw [Hq.out.2.2.2.1, putAll_snoc]
    refine hset6.mono fun b hb => ⟨hb.1, by have := hb.2.1; omega, fun hd => ?_⟩
    rcases (hD6 b hd).1 with h1 | h1
    ·exact hb.2.2 h1
    ·have := hb.2.1; omega
   have hDf : ∀ b, D' b → (Dk b ∨ w4.heap.size ≤ b) ∧ b < w6.heap.size := fun b hd => ⟨by
    rcases (hD6 b hd).1 with h1 | h1
    ·exact (Hq.out.2.1 b h1).1
    ·exact .inr (by omega), (hD6 b hd).2⟩
   have hnD : ∀ b, b < w4.heap.size → ¬ Dk b → ¬ Dw b := fun b hb hn hd => by
    rcases (Hq.out.2.1 b hd).1 with h1 | h1
    ·exact hn h1
    ·omega
   have hbf : Below w.heap.size w w6 := by
    have h1 := Hq.out.2.2.1.trans (H5.out.mono Hq.out.2.2.1.size)
    refine ⟨ho.trans h1.os, htp.trans h1.tape, hou.trans h1.output, Nat.le_trans h1.size hsz6, fun b hb => ?_⟩
    have h2 := H4.out.2.2.2.1.size
    rw [hfr6 b (by omega) (hnD b (by omega) fun hd => by have := (H4.out.2.2.2.2.2.1 b hd).1; omega)]
    exact h1.block b hb
   have hfrf : ∀ b, b < w4.heap.size → ¬ Dk b → w6.heap[b]? = w4.heap[b]? := fun b hb hn => by
    rw [hfr6 b (by omega) (hnD b hb hn), H5.out.block b (by omega)]
    exact Hq.out.2.2.2.2.2.2 b hb hn
   have hszf : w4.heap.size ≤ w6.heap.size := by omega
   have Hfin := hide (And.intro hset7 (And.intro hDf (And.intro hbf (And.intro hszf hfrf))))
   clear hset6 hD6 ho htp hou hfr6 hset7 hDf hbf hnD hfrf hszf
   go_wp2_with fail
   exact ⟨⟨k + 1, D', by go_num, by rw [Hn.out.2.2.2.2.2.1]; omega, Hfin.out.1, Hfin.out.2.1, Hfin.out.2.2.1, Hfin.out.2.2.2.1, Hfin.out.2.2.2.2⟩, by simp [intOf]; omega⟩
  ·have hke : k = ms.length := by omega
   subst hke
   have hki1 : ¬ ((ms.length : Nat) : Int) < (ms.length : Int) := by omega
   rw [List.take_of_length_le (by rw [Hn.out.2.2.2.2.2.1]; exact Nat.le_refl _)] at hset
   obtain ⟨D9, h9, hD9⟩ := H4.out.1 (FB F w4.heap.size Dw wr) wr Dw _ (fun b hb => by
    have h1 := H4.out.2.2.2.2.1 b hb
    have h3 := h1.1
    refine ⟨.inl hb, by omega, fun hd => ?_⟩
    rcases (hDw b hd).1 with h2 | h2
    ·exact h1.2 h2
    ·omega) hset hsz (fun b hd => (hDw b hd).1) hfr
   rw [H4.out.2.1] at h9
   have hread : SetR (Old wr) wr (w.heap.size + 1) (belowS e (pels ms) (.mk m ks)) := h9.read (fun b hb => hb.2.1) fun b hd => by
    rcases hD9 b hd with h2 | h2
    ·exact Nat.lt_of_lt_of_le (H4.out.2.2.1 b h2).2 hsz
    ·exact (hDw b h2).2
   have HF := hide (fromSet_calls hread Hn.out.1 (by unfold R47; omega) Hn.out.2.1)
   have Hb := hide hb
   clear hb hset hDw hfr h9 hD9 hread H4 Hn hlt
   generalize (belowS e (pels ms) (.mk m ks)).paths.map (List.map E.toREl) = rs at *
   go_wp2_with fail
   refine HF.out.mono ?_
   rintro en w5 ⟨B5, d5, rfl, hp, hb5⟩
   have Hf := hide (And.intro (hp.mono fun b hb => ⟨Nat.le_trans Hb.out.size hb.1, hb.2⟩ : PathsAt (Fr w.heap.size w5) w5 rs B5 d5) (Hb.out.trans (hb5.mono Hb.out.size)))
   clear hp hb5
   go_wp2
   go_ret
   exact ⟨B5, d5, rfl, Hf.out.1, Hf.out.2⟩

end Go.Proofs.YtbicoknghdgahaaGreat

namespace Go.Proofs.YtbicoknghdgahaaGreat
open Go.RowKit
attribute [local go_sem] run_store_float

def SmallL (ls : List (List REl)) : Prop := (∀ l ∈ ls, POk (pel l)) ∧ (∀ l ∈ ls, l.length ≤ 8) ∧ ls.length ≤ 60
def SmInv (w : World) (ls : List (List REl)) (s : Value) (W : World) : Prop := ∃ k : Nat, s = .int .i64 (k : Int) ∧ k ≤ ls.length ∧ (∀ (i : Nat) l, i < k → ls[i]? = some l → l.length ≤ 8) ∧ Below w.heap.size w W

set_option maxRecDepth 100000 in
set_option maxHeartbeats 4000000 in
theorem small_calls {ls : List (List REl)} {A : Option Addr} {c : Nat} {w : World} (h : PathsAt (Old w) w ls A c) :
  Calls Tryz.prog 19 #[.slice A ls.length c] w (OrdPost (SmallL ls) w) := by
 have HO := hide fun (W : World) (hb : Below w.heap.size w W) => orderlyPaths_calls (h.at_ hb)
 obtain ⟨h1, h2, h3, xs, h4, h5⟩ := h
 have h1' : ls.length * 24 ≤ 140737488351232 := h1
 have H7 := hide (And.intro h4 h5)
 clear h1 h4 h5
 go_enter Tryz.func19, Tryz.ntmps19
 go_wp2_with fail
 go_loopw [7] (fun s W => SmInv w ls s W) (fun s _ => ls.length - (intOf s).toNat)
 case atStart => exact ⟨0, rfl, Nat.zero_le _, fun i l h => by omega, Below.refl _ _⟩
 case round =>
  obtain ⟨k, rfl, hk, hall, hb⟩ := hrel
  have hki0 : (0 : Int) ≤ (k : Int) := Int.natCast_nonneg _
  by_cases hlt : k < ls.length
  ·have hki1 : (k : Int) < (ls.length : Int) := by omega
   have hx := H7.out.2.at_ hlt
   have hxk : ls[k]? = some ls[k] := List.getElem?_eq_getElem hlt
   generalize ls[k] = l at *
   obtain ⟨B', d', ecs, hl⟩ := hx
   obtain ⟨rb, ro, rfl, hF, hc⟩ := rown_at H7.out.1 hlt ecs
   have q0 := ((bcell hb).1 _ _ hF).trans (hc 0 _ rfl)
   rw [Nat.mul_one, Nat.add_zero] at q0
   have hrb : rb < w.heap.size := hF
   obtain ⟨n, hn⟩ : ∃ n, l.length = n := ⟨_, rfl⟩
   rw [hn] at q0
   have Hb := hide (And.intro hb (And.intro hall (And.intro hxk hn)))
   clear hb hall hxk hn ecs hc hF hl
   by_cases h8 : 8 < n
   ·have g8 : (8 : Int) < (n : Int) := by omega
    have gd8 : decide ((8 : Int) < (n : Int)) = true := decide_eq_true g8
    go_wp2
    go_ret
    exact ⟨false, rfl, (fun h => by cases h), Hb.out.1⟩
   ·have g8 : ¬ (8 : Int) < (n : Int) := by omega
    have gd8 : decide ((8 : Int) < (n : Int)) = false := decide_eq_false g8
    go_wp2_with fail
    refine ⟨⟨k + 1, by go_num, by omega, fun i y hi hy => ?_, Hb.out.1⟩, by simp [intOf]; omega⟩
    by_cases hij : i = k
    ·subst hij
     have := Hb.out.2.2.1
     rw [hy] at this
     cases this
     have := Hb.out.2.2.2
     omega
    ·exact Hb.out.2.1 i y (by omega) hy
  ·have hki1 : ¬ ((k : Nat) : Int) < (ls.length : Int) := by omega
   have hle : ∀ l ∈ ls, l.length ≤ 8 := fun l hl => by
    obtain ⟨i, hi, e⟩ := List.getElem_of_mem hl
    exact hall i l (by omega) (by rw [← e]; exact List.getElem?_eq_getElem hi)
   have HO2 := hide (HO.out wr hb)
   have H2 := hide (And.intro hb hle)
   clear hb hall hle HO
   by_cases h60 : ls.length ≤ 60
   ·have g60 : (ls.length : Int) ≤ 60 := by omega
    have gd60 : decide ((ls.length : Int) ≤ 60) = true := decide_eq_true g60
    go_wp2_with fail
    refine HO2.out.mono ?_
    rintro e w1 ⟨b, rfl, hbo, hb1⟩
    have h9 : b = true → SmallL ls := fun hb => ⟨hbo hb, H2.out.2, h60⟩
    have H3 := hide (And.intro (H2.out.1.trans (hb1.mono H2.out.1.size)) h9)
    clear h9
    clear hbo hb1 HO2 H2 H7
    generalize SmallL ls = P at *
    go_wp2
    go_ret
    exact ⟨b, rfl, H3.out.2, H3.out.1⟩
   ·have g60 : ¬ (ls.length : Int) ≤ 60 := by omega
    have gd60 : decide ((ls.length : Int) ≤ 60) = false := decide_eq_false g60
    go_wp2
    go_ret
    exact ⟨false, rfl, (fun h => by cases h), H2.out.1⟩

end Go.Proofs.YtbicoknghdgahaaGreat
