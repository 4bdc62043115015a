/- Parts: Descend, SetIns, SetTo, SpecSetOf. -/
import Derived.Test.YtbicoknghdgahaaGreatKB13
set_option linter.unusedVariables false
set_option linter.unusedSimpArgs false
namespace Go.Proofs.YtbicoknghdgahaaGreat
open Go.RowKit
attribute [local go_sem] run_store_float

set_option maxRecDepth 100000 in
theorem descendCmp_calls {e1 e2 : E} {cs1 cs2 : List Value} {g : Nat} {w : World} (h1 : KidAt (Old w) w e1 g cs1) (h2 : PEAt (Old w) w e2 cs2) : Calls Tryz.prog 123 #[.agg cs1.toArray, .agg cs2.toArray] w (CmpPost (E.cmp e1 e2) w) := by
 obtain ⟨q0, q1, q2, q3, rfl, h1⟩ := h1
 obtain ⟨a0, a1, a2, a3, e⟩ := h1.form
 cases e
 obtain ⟨b0, b1, b2, b3, rfl⟩ := h2.form
 have hb : Below w.heap.size w ((w.alloc (.cells #[.pointer a0, .pointer a1, .pointer a2, .pointer a3, .pointer (some ⟨g, 0, none⟩)] 214)).alloc (.cells #[.pointer b0, .pointer b1, .pointer b2, .pointer b3] 109)) := ((Below.refl _ _).alloc (Nat.le_refl _) _).alloc (by simp) _
 have H := hide (peCompare_calls (h1.at_ hb) (h2.at_ hb))
 have Hb := hide hb
 clear h1 h2 hb
 go_enter Tryz.func123, Tryz.ntmps123
 go_wp2_with fail
 refine H.out.mono ?_
 rintro e w1 ⟨rfl, hb1⟩
 have Hb1 := hide (Hb.out.trans (hb1.mono Hb.out.size))
 clear hb1
 go_wp2
 go_ret
 exact ⟨rfl, Hb1.out⟩

theorem kid_ones {F : Nat → Prop} {w : World} {ks : List (E × St)} {G : Nat → Nat} {ys : List Value} (hl : ys.length = ks.length * 5) (h : ∀ (i : Nat) k, ks[i]? = some k → KidAt F w k.1 (G i) ((ys.drop (i * 5)).take 5)) : ∀ u ∈ ys, u.oneCell' = true := by
 have hc : Cells 5 (fun (e : E) cs => ∃ g, KidAt F w e g cs) (ks.map Prod.fst) ys := by
  refine ⟨by rw [List.length_map]; exact hl, fun i a ha => ?_⟩
  rw [List.getElem?_map] at ha
  obtain ⟨k, hk, rfl⟩ := Option.map_eq_some_iff.1 ha
  exact ⟨G i, h i k hk⟩
 exact hc.ones (by decide) fun a cs ⟨g, h⟩ => by
  obtain ⟨q0, q1, q2, q3, rfl, h⟩ := h
  obtain ⟨a0, a1, a2, a3, e⟩ := h.form
  cases e
  simp [Value.oneCell']
theorem kids_cells {F : Nat → Prop} {w : World} {ks : List (E × St)} {G : Nat → Nat} {ys : List Value} (hl : ys.length = ks.length * 5) (h : ∀ (i : Nat) k, ks[i]? = some k → KidAt F w k.1 (G i) ((ys.drop (i * 5)).take 5)) : Cells 5 (fun (e : E) cs => ∃ g, KidAt F w e g cs) (ks.map Prod.fst) ys := by
 refine ⟨by rw [List.length_map]; exact hl, fun i a ha => ?_⟩
 rw [List.getElem?_map] at ha
 obtain ⟨k, hk, rfl⟩ := Option.map_eq_some_iff.1 ha
 exact ⟨G i, h i k hk⟩

def DescPost (F : Nat → Prop) (w : World) (D : Nat → Prop) (g : Nat) (m : List E) (ks : List (E × St)) (e : E) (en : Ending) (w' : World) : Prop :=
 ∃ (gk : Nat) (Dk D' : Nat → Prop) (t : St) (ctx : St → St), en = .returned (.pointer (some ⟨gk, 0, none⟩)) ∧ SetM F w' Dk gk t ∧ (t = St.empty ∨ ∃ k ∈ ks, k.2 = t) ∧ (∀ f, ctx (f t) = .mk m (insK e f ks)) ∧ (∀ b, Dk b → D' b) ∧ (∀ b, D' b → (D b ∨ w.heap.size ≤ b) ∧ b < w'.heap.size) ∧ Wand F w' D' Dk gk g ctx ∧
  w'.os = w.os ∧ w'.tape = w.tape ∧ w'.output = w.output ∧ w.heap.size ≤ w'.heap.size ∧ ∀ b, b < w.heap.size → ¬ D b → w'.heap[b]? = w.heap[b]?

set_option maxRecDepth 100000 in
set_option maxHeartbeats 4000000 in
theorem descend_calls {F : Nat → Prop} {w : World} {D : Nat → Prop} {g : Nat} {m : List E} {ks : List (E × St)} {e : E} {p0 p1 p2 p3 : Option Addr} (h : SetM F w D g (.mk m ks)) (hF : ∀ b, F b → b < w.heap.size ∧ ¬ D b) (hD : ∀ b, D b → b < w.heap.size) (hwf : (St.mk m ks).WF) (he : e.Ok)
  (hpe : PEAt F w e [.pointer p0, .pointer p1, .pointer p2, .pointer p3]) (hn : (ks.length + 1) * 40 ≤ R47) :
  Calls Tryz.prog 73 #[.pointer (some ⟨g, 1, none⟩), .agg #[.pointer p0, .pointer p1, .pointer p2, .pointer p3]] w (DescPost F w D g m ks e) := by
 have hn' : (ks.length + 1) * 40 ≤ 140737488351232 := hn
 have hkeysOk : POk (ks.map Prod.fst) ∧ SortC E.cmp (ks.map Prod.fst) := by
  cases hwf with
  | mk _ _ h3 h4 _ => exact ⟨fun x hx => by obtain ⟨k, hk, rfl⟩ := List.mem_map.1 hx; exact h3 k hk, keys_sorted h4⟩
 obtain ⟨mv, kv, ys, G, hbk, hown, hkid, hsep, hF2, hmk⟩ := h.kids hF hD
 have hD1 := h.own.1
 have hDkv : ∀ b, kv.ownBlock = some b → D b := by
  cases h with
  | @mk _ _ _ _ mv' kv' xs' ys' Ds' G' h1 h2 h3 h4 h5 h6 h7 h8 h9 h10 h11 h12 h13 h14 =>
   have e1 := h2.symm.trans hbk
   cases e1
   exact fun b hb => (h8 b hb).1
 have hgl := hbk.lt
 have hyl : ys.length = ks.length * 5 := hown.1
 have hko := hown
 obtain ⟨kA, kc, rfl, hc1, hc2⟩ := own_form hown
 obtain ⟨n, hnl⟩ : ∃ n, ks.length = n := ⟨_, rfl⟩
 have hbx : Below w.heap.size w (w.alloc (.cells #[.pointer p0, .pointer p1, .pointer p2, .pointer p3] 109)) := (Below.refl _ _).alloc (Nat.le_refl _) _
 obtain ⟨w1, hw1⟩ : ∃ w1, w.alloc (.cells #[.pointer p0, .pointer p1, .pointer p2, .pointer p3] 109) = w1 := ⟨_, rfl⟩
 have hbox : Bk w1 w.heap.size 109 #[.pointer p0, .pointer p1, .pointer p2, .pointer p3] := by rw [← hw1]; exact Bk.new _ _ _
 rw [hw1] at hbx
 have hsz1 : w1.heap.size = w.heap.size + 1 := by rw [← hw1, World.size_alloc]
 have hbk1 : Bk w1 g 130 #[mv, .slice kA ks.length kc] := hbk.below hbx hgl
 have hkl := hown.lt
 have kF : Keeps F w w1 := Keeps.below hbx fun b hb => (hF b hb).1
 have hkid1 : ∀ (i : Nat) k, ks[i]? = some k → KidAt (Old w1) w1 k.1 (G i) ((ys.drop (i * 5)).take 5) := fun i k hk => ((hkid i k hk).keeps kF).mono fun b hb => by have := (hF b hb).1; show b < w1.heap.size; omega
 have hpe1 : PEAt (Old w1) w1 e [.pointer p0, .pointer p1, .pointer p2, .pointer p3] := (hpe.keeps kF).mono fun b hb => by have := (hF b hb).1; show b < w1.heap.size; omega
 have hown1 : w1.ownsRow 0 214 5 (.slice kA ks.length kc) ks.length ys := by rw [← hw1]; exact hown.alloc _
 have hlt1 := hown1.lt
 have hdr : Below w1.heap.size w1 w1.drew := below_drew (Below.refl _ _)
 have hsearch := searchK_calls (f := 123) (fun args W => by kernel_rfl) (Q := fun W a cs => ∃ g, KidAt (Old W) W a g cs) (l := ks.map Prod.fst) (A := kA) (c := kc) (w := w1.drew) (xs := ys) (e := e) (t0 := .pointer p0) (t1 := .pointer p1) (t2 := .pointer p2) (t3 := .pointer p3)
  (by rw [List.length_map]; unfold R47; omega) (by rw [List.length_map]; exact (Row.of_own hown1 fun b hb => (hlt1 b hb).2).keeps (Keeps.below hdr fun _ h => h)) (kids_cells hyl fun i k hk => ((hkid1 i k hk).keeps (Keeps.below hdr fun _ h => h)).mono fun _ h => h)
  (fun W a cs hb ⟨g, h⟩ => ⟨g, (h.keeps (Keeps.below hb fun _ h => h)).mono fun _ h => Nat.lt_of_lt_of_le h hb.size⟩) (fun W a cs ⟨g, h⟩ => by obtain ⟨q0, q1, q2, q3, rfl, -⟩ := h; rfl) hkeysOk.1 he hkeysOk.2
  (fun a cs W hb ⟨g, h⟩ => descendCmp_calls h (hpe1.at_ (hdr.trans hb)))
 rw [List.length_map] at hsearch
 have Hs := hide hsearch
 have H0 := hide (And.intro h (And.intro hF (And.intro hD (And.intro hF2 (And.intro hmk (And.intro hkid (And.intro hsep (And.intro hbx (And.intro hown1 (And.intro hpe (And.intro hDkv hD1)))))))))))
 have Hy := hide (And.intro hyl (And.intro (kid_ones hyl hkid) hkl))
 have Hbk := hide (And.intro hbk1 hbox)
 have m0 := hbk1.cell 1
 have b0 := hbox.cell 0
 have b1 := hbox.cell 1
 have b2 := hbox.cell 2
 have b3 := hbox.cell 3
 simp at m0 b0 b1 b2 b3
 have hgne : ¬ g = w.heap.size := by omega
 have hgl1 := hbk1.lt
 have hxl1 := hbox.lt
 clear hsearch h hF hD hF2 hmk hkid hkid1 hsep hpe hpe1 hown hown1 hbx hbk1 hbox hlt1 hbk kF hwf hdr hyl hkl hn hc1 hc2 hko hDkv hD1
 rw [hnl] at m0 hn' Hbk Hs
 have Hnl := hide hnl
 clear hnl
 go_enter Tryz.func73, Tryz.ntmps73
 go_wp2_with fail
 try rw [hw1]
 obtain ⟨S, hS⟩ : ∃ S, (fun W => Bk W g 130 #[mv, .slice kA n kc] ∧ Bk W w.heap.size 109 #[.pointer p0, .pointer p1, .pointer p2, .pointer p3]) = S := ⟨_, rfl⟩
 have hS0 : S w1.drew := by rw [← hS]; exact ⟨Hbk.out.1.drew, Hbk.out.2.drew⟩
 refine wp_region_head 10 S (by rfl) (by kernel_rfl) ?_
 have hX := hide (show ∀ W : World, S W → Bk W g 130 #[mv, .slice kA n kc] ∧ Bk W w.heap.size 109 #[.pointer p0, .pointer p1, .pointer p2, .pointer p3] from fun W hSw => by rw [← hS] at hSw; exact hSw)
 iterate 5
  refine HT.nx (v := ?_) rfl (by kernel_rfl) (fun _ _ _ h => h) (Or.inl ⟨by rfl, ?_⟩) ‹_› ?_
  rotate_left
  ·intro W hSw; have hSw := hX.out W hSw; have m0 := hSw.1.cell 1; have gl := hSw.1.lt; have bl := hSw.2.lt; obtain ⟨-, hSw⟩ := hSw; have b0 := hSw.cell 0; have b1 := hSw.cell 1; have b2 := hSw.cell 2; have b3 := hSw.cell 3; clear hSw; simp at m0 b0 b1 b2 b3; go_simp; with_reducible rfl
  simp only [Act.put, zzA, zzZ, zzS]
 clear hX
 refine HT.one 5 rfl (by kernel_rfl) (by rfl) (fun K hK => ?_)
 go_simp
 refine Hs.out.mono ?_
 rintro en w2 ⟨rfl, hb2⟩
 have hb2' : Below w1.heap.size w1 w2 := below_drew' hb2
 have hS1 : S w2 := by rw [← hS]; exact ⟨Hbk.out.1.drew.below hb2 hgl1, Hbk.out.2.drew.below hb2 hxl1⟩
 obtain ⟨hh, hhe⟩ : ∃ hh, hasC E.cmp e (ks.map Prod.fst) = hh := ⟨_, rfl⟩
 rw [hhe]
 go_simp
 refine hK.out _ _ hS1 ?_
 clear hK
 iterate 4
  refine HT.nx (v := ?_) rfl (by kernel_rfl) (fun _ _ _ h => h) (Or.inl ⟨by rfl, ?_⟩) ‹_› ?_
  rotate_left
  ·intro W hSw; go_simp; with_reducible rfl
  simp only [Act.put, zzA, zzZ, zzS]
 refine HT.done (by kernel_rfl) ?_
 have hbk2 : Bk w2 g 130 #[mv, .slice kA n kc] := Hbk.out.1.drew.below hb2 hgl1
 have hbox2 : Bk w2 w.heap.size 109 #[.pointer p0, .pointer p1, .pointer p2, .pointer p3] := Hbk.out.2.drew.below hb2 hxl1
 have hb02 : Below w.heap.size w w2 := H0.out.2.2.2.2.2.2.2.1.trans (hb2'.mono H0.out.2.2.2.2.2.2.2.1.size)
 have hown2 := ownsRow_below H0.out.2.2.2.2.2.2.2.2.1 hb2' (Nat.le_refl _)
 rw [Hnl.out] at hown2
 have kF2 : Keeps F w w2 := Keeps.below hb02 fun b hb => (H0.out.2.1 b hb).1
 have hset2 : SetM F w2 D g (.mk m ks) := H0.out.1.keeps (Keeps.below hb02 H0.out.2.2.1) kF2
 have hpe2 := H0.out.2.2.2.2.2.2.2.2.2.1.keeps kF2
 have hcl := cntC_le (c := E.cmp) e (ks.map Prod.fst)
 rw [List.length_map, Hnl.out] at hcl
 have hsz2 : w.heap.size + 1 ≤ w2.heap.size := by have := hb2'.size; omega
 have H2 := hide (And.intro hbk2 (And.intro hbox2 (And.intro hb02 (And.intro hown2 (And.intro hset2 (And.intro hpe2 kF2))))))
 have hgl2 := hbk2.lt
 have hxl2 := hbox2.lt
 clear hb2 hb2' hS0 hS1 hbk2 hbox2 hb02 hown2 kF2 hset2 hpe2 m0 b0 b1 b2 b3 Hs
 cases hh
 ·have hins := insK_new hhe
  generalize cntC E.cmp e (ks.map Prod.fst) = cnt at *
  have Hins := hide hins
  clear hins hhe
  go_wp2_with fail
  have hS0 : S w2.drew := by rw [← hS]; exact ⟨H2.out.1.drew, H2.out.2.1.drew⟩
  have hb3 : Below w2.heap.size w2 (w2.drew.alloc (.cells #[.slice none 0 0, .slice none 0 0] 130)) := (below_drew (Below.refl w2.heap.size w2)).alloc (Nat.le_refl _) _
  have hgn3 : Bk (w2.drew.alloc (.cells #[.slice none 0 0, .slice none 0 0] 130)) w2.heap.size 130 #[.slice none 0 0, .slice none 0 0] := Bk.new w2.drew _ _
  have hb4 : Below w2.heap.size w2 ((w2.drew.alloc (.cells #[.slice none 0 0, .slice none 0 0] 130)).alloc (.cells #[.pointer p0, .pointer p1, .pointer p2, .pointer p3, .pointer (some ⟨w2.heap.size, 0, none⟩)] 214)) := hb3.alloc hb3.size _
  have hvb4 : Bk ((w2.drew.alloc (.cells #[.slice none 0 0, .slice none 0 0] 130)).alloc (.cells #[.pointer p0, .pointer p1, .pointer p2, .pointer p3, .pointer (some ⟨w2.heap.size, 0, none⟩)] 214)) (w2.heap.size + 1) 214 #[.pointer p0, .pointer p1, .pointer p2, .pointer p3, .pointer (some ⟨w2.heap.size, 0, none⟩)] := by
   have := Bk.new (w2.drew.alloc (.cells #[.slice none 0 0, .slice none 0 0] 130)) 214 #[.pointer p0, .pointer p1, .pointer p2, .pointer p3, .pointer (some ⟨w2.heap.size, 0, none⟩)]
   rw [World.size_alloc] at this
   exact this
  have hgn4 := hgn3.alloc (.cells #[.pointer p0, .pointer p1, .pointer p2, .pointer p3, .pointer (some ⟨w2.heap.size, 0, none⟩)] 214)
  have hS3 : S (w2.drew.alloc (.cells #[.slice none 0 0, .slice none 0 0] 130)) := by rw [← hS]; exact ⟨H2.out.1.drew.alloc _, H2.out.2.1.drew.alloc _⟩
  have hS4 : S ((w2.drew.alloc (.cells #[.slice none 0 0, .slice none 0 0] 130)).alloc (.cells #[.pointer p0, .pointer p1, .pointer p2, .pointer p3, .pointer (some ⟨w2.heap.size, 0, none⟩)] 214)) := by rw [← hS]; exact ⟨(H2.out.1.drew.alloc _).alloc _, (H2.out.2.1.drew.alloc _).alloc _⟩
  have hown4 := ownsRow_below H2.out.2.2.2.1 hb4 (Nat.le_refl _)
  have hlt2 := H2.out.2.2.2.1.lt
  have HI := hide (insertK_calls (i := cnt) (vs := [.pointer p0, .pointer p1, .pointer p2, .pointer p3, .pointer (some ⟨w2.heap.size, 0, none⟩)]) hown4 hcl hvb4 rfl (by simp [Value.oneCell']) Hy.out.2.1 (fun e => by have := (hlt2 _ e).2; omega) (by omega))
  have hbk4 : Bk ((w2.drew.alloc (.cells #[.slice none 0 0, .slice none 0 0] 130)).alloc (.cells #[.pointer p0, .pointer p1, .pointer p2, .pointer p3, .pointer (some ⟨w2.heap.size, 0, none⟩)] 214)) g 130 #[mv, .slice kA n kc] := (H2.out.1.drew.alloc _).alloc _
  have hbox4 : Bk ((w2.drew.alloc (.cells #[.slice none 0 0, .slice none 0 0] 130)).alloc (.cells #[.pointer p0, .pointer p1, .pointer p2, .pointer p3, .pointer (some ⟨w2.heap.size, 0, none⟩)] 214)) w.heap.size 109 #[.pointer p0, .pointer p1, .pointer p2, .pointer p3] := (H2.out.2.1.drew.alloc _).alloc _
  have hsz4 : ((w2.drew.alloc (.cells #[.slice none 0 0, .slice none 0 0] 130)).alloc (.cells #[.pointer p0, .pointer p1, .pointer p2, .pointer p3, .pointer (some ⟨w2.heap.size, 0, none⟩)] 214)).heap.size = w2.heap.size + 2 := by rw [World.size_alloc, World.size_alloc]; rfl
  have HL := hide (And.intro hS3 (And.intro hS4 (And.intro hb4 (And.intro hgn4 (And.intro hbk4 (And.intro hbox4 hsz4))))))
  clear hb3 hgn3 hb4 hvb4 hgn4 hown4 hS3 hS4 hbk4 hbox4 hsz4 hlt2
  refine wp_region_head 12 S (by rfl) (by kernel_rfl) ?_
  have hX := hide (show ∀ W : World, S W → Bk W g 130 #[mv, .slice kA n kc] ∧ Bk W w.heap.size 109 #[.pointer p0, .pointer p1, .pointer p2, .pointer p3] from fun W hSw => by rw [← hS] at hSw; exact hSw)
  iterate 8
   refine HT.nx (v := ?_) rfl (by kernel_rfl) (fun _ _ _ h => h) (Or.inl ⟨by rfl, ?_⟩) ‹_› ?_
   rotate_left
   ·intro W hSw; have hSw := hX.out W hSw; have m0 := hSw.1.cell 1; have gl := hSw.1.lt; have bl := hSw.2.lt; obtain ⟨-, hSw⟩ := hSw; have b0 := hSw.cell 0; have b1 := hSw.cell 1; have b2 := hSw.cell 2; have b3 := hSw.cell 3; clear hSw; simp at m0 b0 b1 b2 b3; go_simp; with_reducible rfl
   simp only [Act.put, zzA, zzZ, zzS]
  clear hX
  refine HT.one 8 rfl (by kernel_rfl) (by rfl) (fun K hK => ?_)
  go_simp
  refine hK.out _ _ HL.out.1 ?_
  clear hK
  have hS3 := HL.out.1
  refine HT.take 9 (v := ?_) rfl (by kernel_rfl) (fun _ _ _ h => h) (Or.inl ⟨by rfl, ?_⟩) ‹_› ?_
  rotate_left
  ·intro W hSw; go_simp; with_reducible rfl
  simp only [Act.put, zzA, zzZ, zzS]
  clear hS3
  refine HT.one 10 rfl (by kernel_rfl) (by rfl) (fun K hK => ?_)
  go_simp
  refine hK.out _ _ HL.out.2.1 ?_
  clear hK
  refine HT.one 11 rfl (by kernel_rfl) (by rfl) (fun K hK => ?_)
  go_simp
  refine HI.out.mono ?_
  rintro en w5 ⟨s', rfl, hown5, hgr, hblk⟩
  obtain ⟨A5, c5, rfl, _, _⟩ := own_form hown5
  have hkgn : ∀ b, (Value.slice kA n kc).ownBlock = some b → b < w.heap.size := fun b hb => (Hy.out.2.2 b (by rw [Hnl.out]; exact hb)).2
  have hgsep : ∀ x, (Value.slice kA n kc).ownBlock = some x → x ≠ g := fun x hx e => H0.out.2.2.2.2.2.2.1 (by rw [Hnl.out]; rw [← e]; exact hx)
  have hbk5 : Bk w5 g 130 #[mv, .slice kA n kc] := HL.out.2.2.2.2.1.grown hgr (fun e => hgsep g e.symm rfl)
  have hbox5 : Bk w5 w.heap.size 109 #[.pointer p0, .pointer p1, .pointer p2, .pointer p3] := HL.out.2.2.2.2.2.1.grown hgr (fun e => by have := hkgn _ e.symm; omega)
  have hgn5 : Bk w5 w2.heap.size 130 #[.slice none 0 0, .slice none 0 0] := HL.out.2.2.2.1.grown hgr (fun e => by have := hkgn _ e.symm; omega)
  have hS5 : S w5 := by rw [← hS]; exact ⟨hbk5, hbox5⟩
  go_simp
  refine hK.out _ _ hS5 ?_
  clear hK
  refine HT.done (by kernel_rfl) ?_
  have m5 := hbk5.cell 1
  simp at m5
  have f5 := hbk5.free
  have l5 := hbk5.lt
  have hsz5 : w2.heap.size + 2 ≤ w5.heap.size := by have := hgr.size; rw [HL.out.2.2.2.2.2.2] at this; exact this
  have hgr2 := grown2_mk (o := g) (i := 1) (u := .slice A5 (n + 1) c5) HL.out.2.2.1 hgr
  have hG : Grown2 w (w5.setCell ⟨g, 1, none⟩ (.slice A5 (n + 1) c5)) g (Value.slice kA n kc).ownBlock :=
   ⟨hgr2.os.trans H2.out.2.2.1.os, hgr2.tape.trans H2.out.2.2.1.tape, hgr2.output.trans H2.out.2.2.1.output, Nat.le_trans H2.out.2.2.1.size hgr2.size, fun k hk h1 h2 => (hgr2.block k (Nat.lt_of_lt_of_le hk H2.out.2.2.1.size) h1 h2).trans (H2.out.2.2.1.block k hk)⟩
  have hbk6 : Bk (w5.setCell ⟨g, 1, none⟩ (.slice A5 (n + 1) c5)) g 130 #[mv, .slice A5 (n + 1) c5] := by
   have := hbk5.set_ 1 (.slice A5 (n + 1) c5)
   simpa using this
  have hgn6 : Bk (w5.setCell ⟨g, 1, none⟩ (.slice A5 (n + 1) c5)) w2.heap.size 130 #[.slice none 0 0, .slice none 0 0] := (Below.heap_setCell _ _ _ _ (by show w2.heap.size ≠ g; omega)).trans hgn5
  have hsepg : ∀ b, (Value.slice A5 (n + 1) c5).ownBlock = some b → b ≠ g := fun b hb => by
   rcases hblk with e | ⟨b', e, hb'⟩
   ·exact hgsep b (by rw [← e]; exact hb)
   ·rw [e] at hb; cases hb; rw [HL.out.2.2.2.2.2.2] at hb'; omega
  have hown6 : (w5.setCell ⟨g, 1, none⟩ (.slice A5 (n + 1) c5)).ownsRow 0 214 5 (.slice A5 (n + 1) c5) (n + 1) (laid 5 cnt [.pointer p0, .pointer p1, .pointer p2, .pointer p3, .pointer (some ⟨w2.heap.size, 0, none⟩)] ys) :=
   ownsRow_kept hown5 fun b hb => Below.heap_setCell _ _ _ _ (hsepg b hb)
  have kF6 : Keeps F w (w5.setCell ⟨g, 1, none⟩ (.slice A5 (n + 1) c5)) := fun b hb => hG.block b (H0.out.2.1 b hb).1 (H0.out.2.2.2.1 b hb).2.1 (fun e => (H0.out.2.2.2.1 b hb).2.2 (by rw [Hnl.out]; exact e.symm))
  obtain ⟨D', hset, hD'⟩ := H0.out.2.2.2.2.1 _ cnt w2.heap.size e (.pointer p0) (.pointer p1) (.pointer p2) (.pointer p3) (.slice A5 (n + 1) c5) (by rw [Hnl.out]; exact hcl) hbk6 (by rw [Hnl.out]; exact hown6) (H0.out.2.2.2.2.2.2.2.2.2.1.keeps kF6) hgn6 (by omega)
   (by rw [Hnl.out]; exact hblk.imp id fun ⟨b, e, hb⟩ => ⟨b, e, by rw [HL.out.2.2.2.2.2.2] at hb; omega, by rw [HL.out.2.2.2.2.2.2] at hb; omega⟩) (by rw [Hnl.out]; exact hG) (by rw [Hnl.out]; unfold R47; omega)
  have hlk : (ks.take cnt ++ (e, St.empty) :: ks.drop cnt)[cnt]? = some (e, St.empty) := by rw [list_laid (by rw [Hnl.out]; exact hcl)]; simp
  obtain ⟨Dk, gk, mv', kv', ys', q1, q2, q3, q4, q5, q6⟩ := hset.kid (fun b hb => ⟨Nat.lt_of_lt_of_le (H0.out.2.1 b hb).1 hG.size, fun hd => by
   rcases (hD' b hd).1 with h1 | h1
   ·exact (H0.out.2.1 b hb).2 h1
   ·have := (H0.out.2.1 b hb).1; omega⟩) (fun b hb => (hD' b hb).2) hlk
  have e1 := q1.symm.trans hbk6
  cases e1
  have hkl1 : (ks.take cnt ++ (e, St.empty) :: ks.drop cnt).length = n + 1 := by simp [Hnl.out]; omega
  rw [hkl1] at q2
  have e2 := ownsRow_det q2 hown6
  subst e2
  obtain ⟨r0, r1, r2, r3, er, -⟩ := q3
  have hrl := q2.lt
  obtain ⟨rb, ro, rfl, hFr, hc⟩ := rown_at (Row.of_own q2 fun b hb => (hrl b hb).2) (show cnt < n + 1 by omega) er
  have c4 := hc 4 _ rfl
  have m6 := hbk6.cell 1
  simp at m6
  have hset2 : ∀ f : St → St, (ks.take cnt ++ (e, St.empty) :: ks.drop cnt).set cnt (e, f St.empty) = insK e f ks := fun f => by
   rw [Hins.out f, List.set_append_right _ _ (by rw [List.length_take]; omega), show cnt - (ks.take cnt).length = 0 by rw [List.length_take, Hnl.out]; omega, List.set_cons_zero]
  have hci0 : (0 : Int) ≤ (cnt : Int) := Int.natCast_nonneg _
  have hci1 : (cnt : Int) < (n : Int) + 1 := by omega
  have hfr : ∀ b, b < w.heap.size → ¬ D b → (w5.setCell ⟨g, 1, none⟩ (.slice (some ⟨rb, ro, none⟩) (n + 1) c5)).heap[b]? = w.heap[b]? := fun b hb hd => hG.block b hb (fun e => hd (e ▸ H0.out.2.2.2.2.2.2.2.2.2.2.2)) fun e => hd (H0.out.2.2.2.2.2.2.2.2.2.2.1 b (by rw [Hnl.out]; exact e.symm))
  have Hfin := hide (And.intro q4 (And.intro q5 (And.intro q6 (And.intro hD' (And.intro hset2 (And.intro hG hfr))))))
  have Hc := hide (And.intro c4 (And.intro m6 (And.intro hFr hbk6)))
  clear hfr hown5 hgr hblk hbk5 hbox5 hgn5 hS5 hgr2 hG hbk6 hgn6 hsepg hown6 kF6 hset hD' hlk q1 q2 q4 q5 q6 er hrl hFr hc c4 m6 hset2 hkgn hgsep hkl1 HL HI
  go_upto_region 5 with fail
  have hc := Hc.out
  have hfin := Hfin.out
  clear Hc Hfin
  generalize World.setCell w5 _ _ = w6 at hc hfin ⊢
  obtain ⟨c4, m6, hFr, hbk6⟩ := hc
  have hrbl : rb < w6.heap.size := hFr
  have hgl6 := hbk6.lt
  have Hfin := hide hfin
  clear hfin hbk6 hFr m5 f5
  go_wp2
  go_ret
  exact ⟨gk, Dk, D', St.empty, fun t' => .mk m ((ks.take cnt ++ (e, St.empty) :: ks.drop cnt).set cnt (e, t')), rfl, Hfin.out.1, .inl rfl, fun f => by show St.mk m (List.set _ cnt (e, f St.empty)) = _; rw [Hfin.out.2.2.2.2.1 f], Hfin.out.2.1, Hfin.out.2.2.2.1, Hfin.out.2.2.1,
   Hfin.out.2.2.2.2.2.1.os, Hfin.out.2.2.2.2.2.1.tape, Hfin.out.2.2.2.2.2.1.output, Hfin.out.2.2.2.2.2.1.size, Hfin.out.2.2.2.2.2.2⟩
 ·obtain ⟨k, hk1, hk2, hk3⟩ := insK_found hhe
  generalize cntC E.cmp e (ks.map Prod.fst) = cnt at *
  have hcn : cnt < n := by have := (List.getElem?_eq_some_iff.1 hk1).1; rw [Hnl.out] at this; exact this
  obtain ⟨Dk, gk, mv', kv', ys', q1, q2, q3, q4, q5, q6⟩ := H2.out.2.2.2.2.1.kid (fun b hb => ⟨Nat.lt_of_lt_of_le (H0.out.2.1 b hb).1 (by omega), (H0.out.2.1 b hb).2⟩) (fun b hb => Nat.lt_of_lt_of_le (H0.out.2.2.1 b hb) (by omega)) hk1
  have e1 := q1.symm.trans H2.out.1
  cases e1
  rw [Hnl.out] at q2
  obtain ⟨r0, r1, r2, r3, er, -⟩ := q3
  have hrl := H2.out.2.2.2.1.lt
  obtain ⟨rb, ro, rfl, hFr, hc⟩ := rown_at (Row.of_own q2 fun b hb => (hrl b hb).2) hcn er
  have c4 := hc 4 _ rfl
  have m0 := H2.out.1.cell 1
  simp at m0
  have hci0 : (0 : Int) ≤ (cnt : Int) := Int.natCast_nonneg _
  have hci1 : (cnt : Int) < (n : Int) := by omega
  have hrbl : rb < w2.heap.size := hFr
  have Hk := hide (And.intro hk1 (And.intro hk3 (And.intro q4 (And.intro q5 q6))))
  clear hk1 hk2 hk3 q1 q2 q4 q5 q6 er hc hFr hrl hhe
  go_wp2
  go_ret
  exact ⟨gk, Dk, D, k.2, fun t' => .mk m (ks.set cnt (k.1, t')), rfl, Hk.out.2.2.1, .inr ⟨k, List.mem_of_getElem? Hk.out.1, rfl⟩, fun f => by rw [Hk.out.2.1 f], Hk.out.2.2.2.1, fun b hb => ⟨.inl hb, Nat.lt_of_lt_of_le (H0.out.2.2.1 b hb) (by omega)⟩, Hk.out.2.2.2.2,
   H2.out.2.2.1.os, H2.out.2.2.1.tape, H2.out.2.2.1.output, H2.out.2.2.1.size, fun b hb _ => H2.out.2.2.1.block b hb⟩

end Go.Proofs.YtbicoknghdgahaaGreat

namespace Go.Proofs.YtbicoknghdgahaaGreat
open Go.RowKit
attribute [local go_sem] run_store_float

def lenV : Value → Nat
 | .slice _ n _ => n
 | _ => 0

theorem le_of_kid {N : Nat} {m : List E} {ks : List (E × St)} {t : St} (h : (St.mk m ks).Le N) (ht : t = St.empty ∨ ∃ k ∈ ks, k.2 = t) : t.Le N := by
 rcases ht with rfl | ⟨k, hk, rfl⟩
 ·exact St.Le.empty_ N
 ·cases h with
  | mk _ _ h3 => exact h3 k hk
theorem wf_of_kid {m : List E} {ks : List (E × St)} {t : St} (h : (St.mk m ks).WF) (ht : t = St.empty ∨ ∃ k ∈ ks, k.2 = t) : t.WF := by
 rcases ht with rfl | ⟨k, hk, rfl⟩
 ·exact .empty_
 ·cases h with
  | mk _ _ _ _ h5 => exact h5 k hk

def SInsPost (F : Nat → Prop) (w : World) (D : Nat → Prop) (g : Nat) (s' : St) (en : Ending) (w' : World) : Prop :=
 en = .returned (.tuple #[]) ∧ ∃ D', SetM F w' D' g s' ∧ (∀ b, D' b → (D b ∨ w.heap.size ≤ b) ∧ b < w'.heap.size) ∧ w'.os = w.os ∧ w'.tape = w.tape ∧ w'.output = w.output ∧ w.heap.size ≤ w'.heap.size ∧ ∀ b, b < w.heap.size → ¬ D b → w'.heap[b]? = w.heap[b]?

def SIInv (F : Nat → Prop) (w : World) (D : Nat → Prop) (g N : Nat) (s : St) (p : List E) (s0 s1 : Value) (W : World) : Prop :=
 ∃ (q : List E) (B : Option Addr) (d gk : Nat) (Dk : Nat → Prop) (t : St) (ctx : St → St), s0 = .pointer (some ⟨gk, 0, none⟩) ∧ s1 = .slice B q.length d ∧ q ≠ [] ∧ POk q ∧ PPathAt F W q B d ∧ Hole F w D g W Dk gk t ctx ∧ ctx (St.ins q t) = St.ins p s ∧ t.WF ∧ t.Le N

set_option maxRecDepth 100000 in
set_option maxHeartbeats 4000000 in
theorem setInsert_calls {F : Nat → Prop} {w : World} {D : Nat → Prop} {g N : Nat} {s : St} {p : List E} {A : Option Addr} {c : Nat} (h : SetM F w D g s) (hF : ∀ b, F b → b < w.heap.size ∧ ¬ D b) (hD : ∀ b, D b → b < w.heap.size) (hwf : s.WF) (hle : s.Le N) (hN : (N + 1) * 40 ≤ R47) (hp : PPathAt F w p A c) (hok : POk p) :
  Calls Tryz.prog 74 #[.pointer (some ⟨g, 0, none⟩), .slice A p.length c] w (SInsPost F w D g (St.ins p s)) := by
 have hN' : (N + 1) * 40 ≤ 140737488351232 := hN
 have hp47 : p.length * 32 ≤ 140737488351232 := hp.1
 by_cases hp0 : p = []
 ·subst hp0
  have H := hide (And.intro h hD)
  clear h hF hD hp hok hwf hle hN hN'
  go_enter Tryz.func74, Tryz.ntmps74
  go_wp2
  go_returns
  exact ⟨rfl, D, H.out.1, fun b hb => ⟨.inl hb, H.out.2 b hb⟩, rfl, rfl, rfl, Nat.le_refl _, fun _ _ _ => rfl⟩
 have hpl : ¬ (p.length : Int) = 0 := by
  cases p with
  | nil => exact absurd rfl hp0
  | cons a p => simp; omega
 have hpb : ((p.length : Int) == 0) = false := beq_eq_false_iff_ne.2 hpl
 have H0 := hide (And.intro h (And.intro hF (And.intro hD (And.intro hwf (And.intro hle (And.intro hp (And.intro hok hp0)))))))
 clear h hF hD hp hok hwf hle hN hp0
 go_enter Tryz.func74, Tryz.ntmps74
 go_wp2_with fail
 go_loopw [0, 1] (fun s0 s1 W => SIInv F w D g N s p s0 s1 W) (fun _ s1 _ => lenV s1)
 case atStart => exact ⟨p, A, c, g, D, s, id, rfl, rfl, H0.out.2.2.2.2.2.2.2, H0.out.2.2.2.2.2.2.1, H0.out.2.2.2.2.2.1, Hole.start H0.out.1 H0.out.2.2.1, rfl, H0.out.2.2.2.1, H0.out.2.2.2.2.1⟩
 case round =>
  obtain ⟨q, B, d, gk, Dk, t, ctx, rfl, rfl, hq0, hqok, hq, hh, hctx, hwf, hle⟩ := hrel
  obtain ⟨m, ks⟩ := t
  obtain ⟨e, r, rfl⟩ : ∃ e r, q = e :: r := by
   cases q with
   | nil => exact absurd rfl hq0
   | cons e r => exact ⟨e, r, rfl⟩
  obtain ⟨h1, h2, h3, xs, h4, h5⟩ := hq
  have hq47 : (r.length + 1) * 32 ≤ 140737488351232 := by have := h1; simp only [List.length_cons] at this; exact this
  have hpe := h5.at_ (i := 0) (by simp)
  simp only [List.getElem_cons_zero] at hpe
  generalize hcs : (xs.drop (0 * 4)).take 4 = fcs at hpe
  obtain ⟨p0, p1, p2, p3, rfl⟩ := hpe.form
  obtain ⟨rb, ro, rfl, hFr, hc⟩ := rown_at h4 (show 0 < (e :: r).length by simp) hcs
  have q0 := hc 0 _ rfl
  have q1 := hc 1 _ rfl
  have q2 := hc 2 _ rfl
  have q3 := hc 3 _ rfl
  rw [Nat.zero_mul, Nat.add_zero] at q0 q1 q2 q3
  replace hh := hh.drew
  have hfree := hh.free H0.out.2.1
  have hrbl := (hfree rb hFr).1
  have heo : e.Ok := hqok e (by simp)
  have hkd : ∀ b, Dk b → b < wr.heap.size := fun b hb => (hh.dk b hb).2
  have hle' := hle
  cases hle' with
  | mk hm1 hm2 hm3 =>
  cases r with
  | nil =>
   obtain ⟨mv, kv, ys, hes, hF2, hmD, hmk⟩ := hh.sub.members hfree hkd
   have hwf' := hwf
   cases hwf' with
   | mk w1 w2 w3 w4 w5 =>
   have hpe' := hpe.keeps (w' := wr.drew) fun _ _ => rfl
   have HI := hide (esInsertC_calls hes hF2 hpe' w1 heo w2 (by unfold R47; omega))
   have Hh := hide (And.intro hh (And.intro hmk (And.intro hctx (And.intro hm1 hmD))))
   have hgk : gk < wr.heap.size := hes.bk.lt
   clear hmD h1 h4 h5 hpe hpe' hcs hc hFr hfree hkd hh hctx hwf hle hm1 hm2 hm3 w1 w2 w3 w4 w5 hmk hes hF2 hq0 hqok heo
   go_wp2_with fail
   go_still_tail 6, (by kernel_rfl)
   change wpList _ _ _ _ _ wr.drew
   go_wp2_with fail
   refine HI.out.mono ?_
   rintro en w1 ⟨rfl, s', xs', hes', hblk, hgr⟩
   have hml := insC_length (c := E.cmp) e m
   obtain ⟨D1, hs1, hd1⟩ := Hh.out.2.1 w1 _ s' xs' hes' hblk hgr (by have := Hh.out.2.2.2.1; unfold R47; omega)
   obtain ⟨D2, hs2, hd2⟩ := Hh.out.1.wand w1 D1 _ hs1 hgr.size hd1 (fun b hb hnd => hgr.block b hb (fun e => hnd (by rw [e]; exact Hh.out.1.sub.own.1)) (fun e => hnd (Hh.out.2.2.2.2 b e.symm)))
   have hfr : ∀ b, b < w.heap.size → ¬ D b → w1.heap[b]? = w.heap[b]? := fun b hb hnd => by
    rw [← Hh.out.1.frame b hb hnd]
    have hn : ¬ Dk b := fun hd => by
     rcases (Hh.out.1.dk b hd).1 with h1 | h1
     ·exact hnd h1
     ·omega
    exact hgr.block b (Nat.lt_of_lt_of_le hb Hh.out.1.size) (fun e => hn (by rw [e]; exact Hh.out.1.sub.own.1)) (fun e => hn (Hh.out.2.2.2.2 b e.symm))
   have e1 : ctx (.mk (insC E.cmp e m) ks) = St.ins p s := by rw [← Hh.out.2.2.1]; rfl
   rw [e1] at hs2
   have Hfin := hide (And.intro hs2 (And.intro hd2 (And.intro (hgr.os.trans Hh.out.1.os) (And.intro (hgr.tape.trans Hh.out.1.tape) (And.intro (hgr.output.trans Hh.out.1.output) (And.intro (Nat.le_trans Hh.out.1.size hgr.size) hfr))))))
   clear hes' hblk hgr hml hs1 hd1 hs2 hd2 hfr e1
   go_wp2
   go_returns
   exact ⟨rfl, D2, Hfin.out.1, Hfin.out.2.1, Hfin.out.2.2.1, Hfin.out.2.2.2.1, Hfin.out.2.2.2.2.1, Hfin.out.2.2.2.2.2.1, Hfin.out.2.2.2.2.2.2⟩
  | cons x r =>
   have hpe' := hpe.keeps (w' := wr.drew) fun _ _ => rfl
   have HI := hide (descend_calls hh.sub hfree hkd hwf heo hpe' (by unfold R47; omega))
   obtain ⟨n, hn⟩ : ∃ n, (e :: x :: r).length = n := ⟨_, rfl⟩
   have hn2 : 2 ≤ n := by rw [← hn]; simp
   have hrow := h4.drop (m := 1) (c := d) (by simp) h2
   rw [if_neg (show ¬ d = 1 by rw [hn] at h2; omega)] at hrow
   have hcell := h5.drop_ 1
   have Hq := hide (And.intro hrow (And.intro hcell (And.intro hqok (And.intro hn (And.intro h2 h3)))))
   have Hh := hide (And.intro hh (And.intro hctx (And.intro hwf hle)))
   have hn47 : n * 32 ≤ 140737488351232 := by rw [← hn]; simpa using hq47
   rw [hn] at h2 ⊢
   clear hq47
   clear h1 h4 h5 hpe hpe' hcs hc hFr hfree hkd hh hctx hwf hle hm1 hm2 hm3 hq0 hqok heo hn hrow hcell
   have hn1 : ¬ (n : Int) = 1 := by omega
   have hnb : ((n : Int) == 1) = false := beq_eq_false_iff_ne.2 hn1
   have hni : (0 : Int) < (n : Int) := by omega
   have hn0 : 0 < n := by omega
   have hn1n : 1 ≤ n := by omega
   have hnj : (1 : Int) ≤ (n : Int) := by omega
   have hd1 : ¬ d = 1 := by omega
   go_wp2_with fail
   go_still_tail 6, (by kernel_rfl)
   change wpList _ _ _ _ _ wr.drew
   go_wp2_with fail
   refine HI.out.mono ?_
   rintro en w1 ⟨gk2, Dk2, D2, t2, ctx2, rfl, hs2, ht2, hc2, hdk2, hD2, hw2, ho, htp, hou, hsz, hfr⟩
   have hh2 := Hh.out.1.step hs2 hdk2 hD2 hw2 ho htp hou hsz hfr
   have kF := hh2.keepsF H0.out.2.1
   have kFw : Keeps F wr w1 := fun b hb => by
    have h1 := H0.out.2.1 b hb
    refine hfr b (Nat.lt_of_lt_of_le h1.1 Hh.out.1.size) fun hd => ?_
    rcases (Hh.out.1.dk b hd).1 with h3 | h3
    ·exact h1.2 h3
    ·omega
   have e1 : ctx (ctx2 (St.ins (x :: r) t2)) = St.ins p s := by rw [hc2, ← Hh.out.2.1]; rfl
   have hq2 : PPathAt F w1 (x :: r) (some ⟨rb, ro + 4, none⟩) (d - 1) := by
    have hnx : (x :: r).length = n - 1 := by have := Hq.out.2.2.2.1; simp at this ⊢; omega
    refine ⟨by rw [hnx]; unfold R47; omega, by rw [hnx]; omega, by have := Hq.out.2.2.2.2.2; omega, xs.drop (1 * 4), ?_, ?_⟩
    ·have := Hq.out.1.keeps kFw
     rw [Hq.out.2.2.2.1] at this
     rw [hnx]
     simpa [Addr.add_lit] using this
    ·exact (Hq.out.2.1.mono fun _ _ h => h.keeps kFw)
   have hnx : (x :: r).length = n - 1 := by have := Hq.out.2.2.2.1; simp at this ⊢; omega
   have Hfin := hide (And.intro hh2 (And.intro e1 (And.intro hq2 (And.intro (fun y (hy : y ∈ x :: r) => Hq.out.2.2.1 y (List.mem_cons_of_mem _ hy)) (And.intro hnx (And.intro (wf_of_kid Hh.out.2.2.1 ht2) (le_of_kid Hh.out.2.2.2 ht2)))))))
   clear hs2 ht2 hc2 hdk2 hD2 hw2 ho htp hou hsz hfr hh2 kF kFw e1 hq2 hnx
   go_wp2_with fail
   exact ⟨⟨x :: r, some ⟨rb, ro + 4, none⟩, d - 1, gk2, Dk2, t2, _, rfl, by rw [Hfin.out.2.2.2.2.1], by simp, Hfin.out.2.2.2.1, Hfin.out.2.2.1, Hfin.out.1, Hfin.out.2.1, Hfin.out.2.2.2.2.2.1, Hfin.out.2.2.2.2.2.2⟩, by simp [lenV]; omega⟩

end Go.Proofs.YtbicoknghdgahaaGreat

namespace Go.Proofs.YtbicoknghdgahaaGreat
open Go.RowKit
attribute [local go_sem] run_store_float

def N38 : Nat := 274877906944
def setP (l : List (List E)) : St := l.foldl (fun s p => St.ins p s) St.empty
theorem setP_snoc (l : List (List E)) (p : List E) : setP (l ++ [p]) = St.ins p (setP l) := by simp [setP]
theorem foldP {l : List (List E)} (h : ∀ p ∈ l, POk p) : ∀ (s : St) (n : Nat), s.WF → s.Le n → (l.foldl (fun s p => St.ins p s) s).WF ∧ (l.foldl (fun s p => St.ins p s) s).Le (n + l.length) := by
 induction l with
 | nil => exact fun s n hw hl => ⟨hw, hl⟩
 | cons p l ih =>
  intro s n hw hl
  have := ih (fun q hq => h q (List.mem_cons_of_mem _ hq)) (St.ins p s) (n + 1) (ins_wf hw (h p (by simp))) (ins_le hl)
  rw [List.foldl_cons, List.length_cons]
  exact ⟨this.1, this.2.mono (by omega)⟩
theorem setP_wf {l : List (List E)} (h : ∀ p ∈ l, POk p) : (setP l).WF := (foldP h _ 0 .empty_ (St.Le.empty_ 0)).1
theorem setP_le {l : List (List E)} (h : ∀ p ∈ l, POk p) : (setP l).Le l.length := by
 have := (foldP h _ 0 .empty_ (St.Le.empty_ 0)).2
 rwa [Nat.zero_add] at this
theorem has_foldP {l : List (List E)} (h : ∀ p ∈ l, POk p) : ∀ (s : St), s.WF → ∀ {x : List E}, POk x → x ≠ [] → ((l.foldl (fun s p => St.ins p s) s).Has x ↔ s.Has x ∨ ∃ p ∈ l, wcmp p x = 0) := by
 induction l with
 | nil => intro s _ x _ _; simp
 | cons p l ih =>
  intro s hw x hx hx0
  have hp := h p (by simp)
  rw [List.foldl_cons, ih (fun q hq => h q (List.mem_cons_of_mem _ hq)) _ (ins_wf hw hp) hx hx0]
  by_cases hp0 : p = []
  ·subst hp0
   have e : St.ins [] s = s := by cases s; rfl
   rw [e]
   constructor
   ·rintro (h1 | ⟨q, h1, h2⟩)
    ·exact .inl h1
    ·exact .inr ⟨q, by simp [h1], h2⟩
   ·rintro (h1 | ⟨q, h1, h2⟩)
    ·exact .inl h1
    ·rcases List.mem_cons.1 h1 with rfl | h1
     ·have := wcmp_len h2
      exact absurd (List.eq_nil_of_length_eq_zero this.symm) hx0
     ·exact .inr ⟨q, h1, h2⟩
  ·rw [has_ins hw hp hp0 hx]
   constructor
   ·rintro ((h1 | h1) | ⟨q, h1, h2⟩)
    ·exact .inr ⟨p, by simp, h1⟩
    ·exact .inl h1
    ·exact .inr ⟨q, by simp [h1], h2⟩
   ·rintro (h1 | ⟨q, h1, h2⟩)
    ·exact .inl (.inr h1)
    ·rcases List.mem_cons.1 h1 with rfl | h1
     ·exact .inl (.inl h2)
     ·exact .inr ⟨q, h1, h2⟩
theorem has_setP {l : List (List E)} (h : ∀ p ∈ l, POk p) {x : List E} (hx : POk x) (hx0 : x ≠ []) : (setP l).Has x ↔ ∃ p ∈ l, wcmp p x = 0 := by
 have := has_foldP h St.empty .empty_ hx hx0
 rw [show (setP l).Has x ↔ _ from this]
 constructor
 ·rintro (h1 | h1)
  ·exact absurd h1 (has_empty _)
  ·exact h1
 ·exact .inr

set_option maxRecDepth 100000 in
theorem newSet_calls (w : World) : Calls Tryz.prog 121 #[.slice none 0 0] w fun en w' => en = .returned (.pointer (some ⟨w.heap.size, 0, none⟩)) ∧ w' = w.alloc (.cells #[.slice none 0 0, .slice none 0 0] 130) := by
 go_enter Tryz.func121, Tryz.ntmps121
 go_wp2_with fail
 go_loopw [10] (fun s W => s = .int .i64 0 ∧ W = w.alloc (.cells #[.slice none 0 0, .slice none 0 0] 130)) (fun _ _ => 0)
 case atStart => exact ⟨rfl, rfl⟩
 case round =>
  obtain ⟨rfl, rfl⟩ := hrel
  go_wp2
  go_ret
  exact ⟨rfl, rfl⟩

def pels (ls : List (List REl)) : List (List E) := ls.map pel
end Go.Proofs.YtbicoknghdgahaaGreat

namespace Go.Proofs.YtbicoknghdgahaaGreat
open Go.RowKit
attribute [local go_sem] run_store_float

theorem paths_info : (Tryz.prog.info? 22).map (fun i => (i.zero, i.size, i.bytes)) = some (some (.slice none 0 0), 1, 24) := by kernel_rfl
def PWS (p : List E) : Prop := ∀ e ∈ p, EWS e
theorem PWS.back {p : List E} (h : PWS p) : pel (p.map E.toREl) = p := map_back h
theorem pel_pws (l : List REl) : PWS (pel l) := fun _ h => pel_ews h
theorem pelsP_back {ps : List (List E)} (h : ∀ p ∈ ps, PWS p) : pelsP (ps.map (List.map E.toREl)) = ps := by
 unfold pelsP
 rw [List.map_map]
 conv => rhs; rw [← List.map_id ps]
 exact List.map_congr_left fun p hp => (h p hp).back
theorem pels_pws {ls : List (List REl)} {p : List E} (h : p ∈ pels ls) : PWS p := by
 obtain ⟨l, -, rfl⟩ := List.mem_map.1 h
 exact pel_pws l

def PQ (F : Nat → Prop) (w : World) (l : List REl) (cs : List Value) : Prop := ∃ A c, cs = [.slice A l.length c] ∧ PathAt F w l A c
theorem PQ.keeps {F : Nat → Prop} {w w' : World} {l : List REl} {cs : List Value} (h : PQ F w l cs) (k : Keeps F w w') : PQ F w' l cs := by
 obtain ⟨A, c, e, h⟩ := h
 exact ⟨A, c, e, h.keeps k⟩
theorem PQ.mono {F G : Nat → Prop} {w : World} {l : List REl} {cs : List Value} (h : PQ F w l cs) (k : ∀ b, F b → G b) : PQ G w l cs := by
 obtain ⟨A, c, e, h⟩ := h
 exact ⟨A, c, e, h.mono k⟩
theorem pq_ones {F : Nat → Prop} {w : World} {l : List (List REl)} {xs : List Value} (h : Cells 1 (PQ F w) l xs) : ∀ u ∈ xs, u.oneCell' = true :=
 h.ones (by decide) fun a cs h => by
  obtain ⟨A, c, rfl, -⟩ := h
  simp [Value.oneCell']
def GivesPaths (rs : List (List REl)) (w : World) (en : Ending) (w' : World) : Prop := ∃ A c, en = .returned (.slice A rs.length c) ∧ PathsAt (Fr w.heap.size w') w' rs A c ∧ Below w.heap.size w w'

end Go.Proofs.YtbicoknghdgahaaGreat
