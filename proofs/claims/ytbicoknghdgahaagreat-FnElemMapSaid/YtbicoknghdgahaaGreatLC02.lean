/- Parts: ElemMapM, Two. -/
import Derived.Test.YtbicoknghdgahaaGreatKL01
set_option linter.unusedVariables false
set_option linter.unusedSimpArgs false
namespace Go.Proofs.YtbicoknghdgahaaGreat
open Go.RowKit
attribute [local go_sem] run_store_float

theorem run_assert_value (a : Addr) (w : World) : (Instr.typeAssert (.iface 302 (.pointer (some a))) 20 112 false).run Tryz.prog w = .ok (.iface 302 (.pointer (some a))) w := by kernel_rfl
attribute [local go_sem] run_assert_value

def VCell (F : Nat → Prop) (w : World) (k : E × T) (cs : List Value) : Prop := ∃ (a b c d : Option Addr) (gv : Addr), cs = [.pointer a, .pointer b, .pointer c, .pointer d, .iface 302 (.pointer (some gv))] ∧ PEAt F w k.1 [.pointer a, .pointer b, .pointer c, .pointer d] ∧ ValAt F w k.2 (.iface 302 (.pointer (some gv)))
section
variable {F G : Nat → Prop} {w w' : World} {k : E × T} {cs : List Value}
theorem VCell.keeps (h : VCell F w k cs) (hk : Keeps F w w') : VCell F w' k cs := by
 obtain ⟨a, b, c, d, gv, e, h1, h2⟩ := h
 exact ⟨a, b, c, d, gv, e, h1.keeps hk, h2.keeps hk⟩
theorem VCell.mono (h : VCell F w k cs) (hk : ∀ b, F b → G b) : VCell G w k cs := by
 obtain ⟨a, b, c, d, gv, e, h1, h2⟩ := h
 exact ⟨a, b, c, d, gv, e, h1.mono hk, h2.mono hk⟩
theorem VCell.at_ (h : VCell (Old w) w k cs) (hb : Below w.heap.size w w') : VCell (Old w') w' k cs := (h.keeps (Keeps.below hb fun _ h => h)).mono fun _ h => Nat.lt_of_lt_of_le h hb.size
end
theorem v_ones {F : Nat → Prop} {w : World} {l : List (E × T)} {xs : List Value} (h : Cells 5 (VCell F w) l xs) : ∀ u ∈ xs, u.oneCell' = true :=
 h.ones (by decide) fun a cs h => by
  obtain ⟨a, b, c, d, gv, rfl, -, -⟩ := h
  simp [Value.oneCell']
theorem vkeys_cells {F : Nat → Prop} {w : World} {l : List (E × T)} {xs : List Value} (h : Cells 5 (VCell F w) l xs) : Cells 5 (fun (e : E) cs => ∃ t, VCell F w (e, t) cs) (l.map Prod.fst) xs := by
 refine ⟨by rw [List.length_map]; exact h.1, fun i a ha => ?_⟩
 rw [List.getElem?_map] at ha
 obtain ⟨k, hk, rfl⟩ := Option.map_eq_some_iff.1 ha
 exact ⟨k.2, h.2 i k hk⟩
theorem v_cells_laid {F : Nat → Prop} {w : World} {l : List (E × T)} {xs : List Value} {k : E × T} {cs : List Value} {i : Nat} (h : Cells 5 (VCell F w) l xs) (hk : VCell F w k cs) (hl : cs.length = 5) (hi : i ≤ l.length) : Cells 5 (VCell F w) (l.take i ++ k :: l.drop i) (laid 5 i cs xs) := by
 have h1 := h.take i hi
 have h2 := h.drop_ i
 have := (h1.append (Cells.one hk hl)).append h2
 simpa [laid] using this
theorem v_cells_set {F : Nat → Prop} {w : World} {l : List (E × T)} {xs : List Value} {k k' : E × T} {c0 c1 c2 c3 c4 u : Value} {i : Nat} (h : Cells 5 (VCell F w) l xs) (hk : l[i]? = some k) (hcs : (xs.drop (i * 5)).take 5 = [c0, c1, c2, c3, c4]) (hk' : VCell F w k' [c0, c1, c2, c3, u]) : Cells 5 (VCell F w) (l.set i k') (xs.set (i * 5 + 4) u) := by
 have hil := (List.getElem?_eq_some_iff.1 hk).1
 have hsl := h.1
 refine ⟨by rw [List.length_set, List.length_set, hsl], fun j a ha => ?_⟩
 rw [List.getElem?_set] at ha
 by_cases hji : i = j
 ·subst hji
  rw [if_pos rfl, if_pos hil] at ha
  cases ha
  have e1 : ((xs.set (i * 5 + 4) u).drop (i * 5)).take 5 = [c0, c1, c2, c3, u] := by
   rw [List.drop_set, if_neg (by omega), List.take_set, hcs, show i * 5 + 4 - i * 5 = 4 by omega]
   rfl
  rw [e1]
  exact hk'
 ·rw [if_neg hji] at ha
  have e1 : ((xs.set (i * 5 + 4) u).drop (j * 5)).take 5 = (xs.drop (j * 5)).take 5 := by
   apply List.ext_getElem?
   intro q
   rw [List.getElem?_take, List.getElem?_take]
   split
   ·rw [List.getElem?_drop, List.getElem?_drop, List.getElem?_set, if_neg (by omega)]
   ·rfl
  rw [e1]
  exact h.2 j a ha

set_option maxRecDepth 100000 in
theorem emInsertCmp {k : E × T} {e2 : E} {cs1 cs2 : List Value} {w : World} (h1 : VCell (Old w) w k cs1) (h2 : PEAt (Old w) w e2 cs2) : Calls Tryz.prog 169 #[.agg cs1.toArray, .agg cs2.toArray] w (CmpPost (E.cmp k.1 e2) w) := by
 obtain ⟨a0, a1, a2, a3, gv, rfl, h1, -⟩ := h1
 obtain ⟨b0, b1, b2, b3, rfl⟩ := h2.form
 have hb : Below w.heap.size w ((w.alloc (.cells #[.pointer a0, .pointer a1, .pointer a2, .pointer a3, .iface 302 (.pointer (some gv))] 299)).alloc (.cells #[.pointer b0, .pointer b1, .pointer b2, .pointer b3] 109)) := ((Below.refl _ _).alloc (Nat.le_refl _) _).alloc (by simp) _
 have H := hide (peCompare_calls (h1.at_ hb) (h2.at_ hb))
 have Hb := hide hb
 clear h1 h2 hb
 go_enter Tryz.func169, Tryz.ntmps169
 go_wp2_with fail
 refine H.out.mono ?_
 rintro e w1 ⟨rfl, hb1⟩
 have Hb1 := hide (Hb.out.trans (hb1.mono Hb.out.size))
 clear hb1
 go_wp2
 go_ret
 exact ⟨rfl, Hb1.out⟩

set_option maxRecDepth 100000 in
theorem emGetCmp {k : E × T} {e2 : E} {cs1 cs2 : List Value} {w : World} (h1 : VCell (Old w) w k cs1) (h2 : PEAt (Old w) w e2 cs2) : Calls Tryz.prog 174 #[.agg cs1.toArray, .agg cs2.toArray] w (CmpPost (E.cmp k.1 e2) w) := by
 obtain ⟨a0, a1, a2, a3, gv, rfl, h1, -⟩ := h1
 obtain ⟨b0, b1, b2, b3, rfl⟩ := h2.form
 have hb : Below w.heap.size w ((w.alloc (.cells #[.pointer a0, .pointer a1, .pointer a2, .pointer a3, .iface 302 (.pointer (some gv))] 299)).alloc (.cells #[.pointer b0, .pointer b1, .pointer b2, .pointer b3] 109)) := ((Below.refl _ _).alloc (Nat.le_refl _) _).alloc (by simp) _
 have H := hide (peCompare_calls (h1.at_ hb) (h2.at_ hb))
 have Hb := hide hb
 clear h1 h2 hb
 go_enter Tryz.func174, Tryz.ntmps174
 go_wp2_with fail
 refine H.out.mono ?_
 rintro e w1 ⟨rfl, hb1⟩
 have Hb1 := hide (Hb.out.trans (hb1.mono Hb.out.size))
 clear hb1
 go_wp2
 go_ret
 exact ⟨rfl, Hb1.out⟩

structure EMap (F : Nat → Prop) (w : World) (t : TypeId) (g : Nat) (l : List (E × T)) (s : Value) (xs : List Value) : Prop where
 bk : Bk w g t #[s]
 own : w.ownsRow 0 299 5 s l.length xs
 at_ : Cells 5 (VCell F w) l xs
 sep : s.ownBlock ≠ some g
def EMInsPost (F : Nat → Prop) (w : World) (t : TypeId) (g : Nat) (l' : List (E × T)) (s : Value) (en : Ending) (w' : World) : Prop :=
 en = .returned (.tuple #[]) ∧ ∃ s' xs', EMap F w' t g l' s' xs' ∧ (s'.ownBlock = s.ownBlock ∨ ∃ b, s'.ownBlock = some b ∧ w.heap.size ≤ b) ∧ Grown2 w w' g s.ownBlock

set_option maxRecDepth 100000 in
set_option maxHeartbeats 4000000 in
theorem emInsert_calls {F : Nat → Prop} {w : World} {t : TypeId} {g : Nat} {l : List (E × T)} {s : Value} {xs : List Value} {e : E} {v : T} {gv : Addr} {p0 p1 p2 p3 : Option Addr} (hs : EMap F w t g l s xs) (hF : ∀ b, F b → b < w.heap.size ∧ b ≠ g ∧ s.ownBlock ≠ some b)
  (hpe : PEAt F w e [.pointer p0, .pointer p1, .pointer p2, .pointer p3]) (hv : ValAt F w v (.iface 302 (.pointer (some gv)))) (hok : VOk l) (he : e.Ok) (hn : (l.length + 1) * 48 ≤ R47) :
  Calls Tryz.prog 111 #[.pointer (some ⟨g, 0, none⟩), .agg #[.pointer p0, .pointer p1, .pointer p2, .pointer p3], .iface 302 (.pointer (some gv))] w (EMInsPost F w t g (putV e v l) s) := by
 have hn' : (l.length + 1) * 48 ≤ 140737488351232 := hn
 have hg := hs.bk.lt
 have hlt := hs.own.lt
 obtain ⟨sA, sc, rfl, hc1, hc2⟩ := own_form hs.own
 have hbx : Below w.heap.size w (w.alloc (.cells #[.pointer p0, .pointer p1, .pointer p2, .pointer p3] 109)) := (Below.refl _ _).alloc (Nat.le_refl _) _
 obtain ⟨w1, hw1⟩ : ∃ w1, w.alloc (.cells #[.pointer p0, .pointer p1, .pointer p2, .pointer p3] 109) = w1 := ⟨_, rfl⟩
 have hbox : Bk w1 w.heap.size 109 #[.pointer p0, .pointer p1, .pointer p2, .pointer p3] := by rw [← hw1]; exact Bk.new _ _ _
 rw [hw1] at hbx
 have hsz1 : w1.heap.size = w.heap.size + 1 := by rw [← hw1, World.size_alloc]
 have kF : Keeps F w w1 := Keeps.below hbx fun b hb => (hF b hb).1
 have hx1 := hs.at_.mono fun _ _ h => VCell.keeps h kF
 have hpe1 := hpe.keeps kF
 have hown1 : w1.ownsRow 0 299 5 (.slice sA l.length sc) l.length xs := by rw [← hw1]; exact hs.own.alloc _
 have hlt1 := hown1.lt
 have hsearch := searchV_calls (f := 169) (fun args W => by kernel_rfl) (Q := fun W a cs => ∃ t, VCell (Old W) W (a, t) cs) (l := l.map Prod.fst) (A := sA) (c := sc) (w := w1.drew) (xs := xs) (e := e) (t0 := .pointer p0) (t1 := .pointer p1) (t2 := .pointer p2) (t3 := .pointer p3)
  (by rw [List.length_map]; unfold R47; omega) (by rw [List.length_map]; exact ((Row.of_own hown1 fun b hb => (hlt1 b hb).2).keeps (Keeps.below (below_drew (Below.refl w1.heap.size w1)) fun _ h => h))) (vkeys_cells (hx1.mono fun a cs h => (VCell.mono h fun b hb => by have := (hF b hb).1; show b < w1.heap.size; omega).at_ (below_drew (Below.refl _ _))))
  (fun W a cs hb ⟨t, h⟩ => ⟨t, h.at_ hb⟩) (fun W a cs ⟨t, h⟩ => by obtain ⟨a0, a1, a2, a3, gv, rfl, -, -⟩ := h; rfl) hok.keys.1 he hok.keys.2
  (fun a cs W hb ⟨t, h⟩ => emInsertCmp h ((hpe1.mono fun b hb => by have := (hF b hb).1; show b < w1.heap.size; omega).at_ ((below_drew (Below.refl w1.heap.size w1)).trans hb)))
 rw [List.length_map] at hsearch
 have hbk1 : Bk w1 g t #[.slice sA l.length sc] := hs.bk.below hbx hg
 have hv1 := hv.keeps kF
 have Hs := hide hsearch
 have Hput := hide (And.intro (fun h => putV_found (e := e) (ks := l) h) (And.intro (fun h => putV_new (e := e) (ks := l) h) (cntC_le (c := E.cmp) e (l.map Prod.fst))))
 have H0 := hide (And.intro hs (And.intro hF (And.intro hx1 (And.intro hpe1 (And.intro hown1 (And.intro hbx hv1))))))
 obtain ⟨n, hnl⟩ : ∃ n, l.length = n := ⟨_, rfl⟩
 have Hnl := hide hnl
 rw [hnl] at hn' hbk1 H0 Hs
 have Hbk := hide (And.intro hbk1 hbox)
 have m0 := hbk1.cell 0
 have b0 := hbox.cell 0
 have b1 := hbox.cell 1
 have b2 := hbox.cell 2
 have b3 := hbox.cell 3
 simp at m0 b0 b1 b2 b3
 have hgne : ¬ g = w.heap.size := by omega
 have hgl1 := hbk1.lt
 have hxl1 := hbox.lt
 rw [hnl] at hsearch hs hown1 ⊢
 clear hsearch hs hF hx1 hpe1 hown1 hbx hbk1 hbox hlt hlt1 hpe kF hc1 hc2 hv hv1 hok hn hnl
 go_enter Tryz.func111, Tryz.ntmps111
 go_wp2_with fail
 try rw [hw1]
 obtain ⟨S, hS⟩ : ∃ S, (fun W => Bk W g t #[.slice sA n sc] ∧ Bk W w.heap.size 109 #[.pointer p0, .pointer p1, .pointer p2, .pointer p3]) = S := ⟨_, rfl⟩
 have hS0 : S w1.drew := by rw [← hS]; exact ⟨Hbk.out.1.drew, Hbk.out.2.drew⟩
 refine wp_region_head 10 S (by rfl) (by kernel_rfl) ?_
 have hX := hide (show ∀ W : World, S W → Bk W g t #[.slice sA n sc] ∧ Bk W w.heap.size 109 #[.pointer p0, .pointer p1, .pointer p2, .pointer p3] from fun W hSw => by rw [← hS] at hSw; exact hSw)
 iterate 5
  refine HT.nx (v := ?_) rfl (by kernel_rfl) (fun _ _ _ h => h) (Or.inl ⟨by rfl, ?_⟩) ‹_› ?_
  rotate_left
  ·intro W hSw; have hSw := hX.out W hSw; have m0 := hSw.1.cell 0; have gl := hSw.1.lt; have bl := hSw.2.lt; obtain ⟨-, hSw⟩ := hSw; have b0 := hSw.cell 0; have b1 := hSw.cell 1; have b2 := hSw.cell 2; have b3 := hSw.cell 3; clear hSw; simp at m0 b0 b1 b2 b3; go_simp; with_reducible rfl
  simp only [Act.put, zzA, zzZ, zzS]
 clear hX
 refine HT.one 5 rfl (by kernel_rfl) (by rfl) (fun K hK => ?_)
 go_simp
 refine Hs.out.mono ?_
 rintro en w2 ⟨rfl, hb2⟩
 have hb2' : Below w1.heap.size w1 w2 := below_drew' hb2
 have hS1 : S w2 := by rw [← hS]; exact ⟨Hbk.out.1.drew.below hb2 hgl1, Hbk.out.2.drew.below hb2 hxl1⟩
 obtain ⟨hh, hhe⟩ : ∃ hh, hasC E.cmp e (l.map Prod.fst) = hh := ⟨_, rfl⟩
 rw [hhe]
 go_simp
 refine hK.out _ _ hS1 ?_
 clear hK
 iterate 4
  refine HT.nx (v := ?_) rfl (by kernel_rfl) (fun _ _ _ h => h) (Or.inl ⟨by rfl, ?_⟩) ‹_› ?_
  rotate_left
  ·intro W hSw; go_simp; with_reducible rfl
  simp only [Act.put, zzA, zzZ, zzS]
 refine HT.done (by kernel_rfl) ?_
 have hbk2 : Bk w2 g t #[.slice sA n sc] := Hbk.out.1.drew.below hb2 hgl1
 have hbox2 : Bk w2 w.heap.size 109 #[.pointer p0, .pointer p1, .pointer p2, .pointer p3] := Hbk.out.2.drew.below hb2 hxl1
 have hb02 : Below w.heap.size w w2 := H0.out.2.2.2.2.2.1.trans (hb2'.mono H0.out.2.2.2.2.2.1.size)
 have kF2 : Keeps F w1 w2 := Keeps.below hb2' fun b hb => by have := (H0.out.2.1 b hb).1; omega
 have hx2 : Cells 5 (VCell F w2) l xs := H0.out.2.2.1.mono fun _ _ h => VCell.keeps h kF2
 have hpe2 : PEAt F w2 e [.pointer p0, .pointer p1, .pointer p2, .pointer p3] := H0.out.2.2.2.1.keeps kF2
 have hv2 := H0.out.2.2.2.2.2.2.keeps kF2
 have hown2 : w2.ownsRow 0 299 5 (.slice sA n sc) n xs := ownsRow_below H0.out.2.2.2.2.1 hb2' (Nat.le_refl _)
 have H2 := hide (And.intro hbk2 (And.intro hbox2 (And.intro hb02 (And.intro hx2 (And.intro hpe2 (And.intro hown2 hv2))))))
 have hgl2 := hbk2.lt
 have hxl2 := hbox2.lt
 clear hb2 hb2' hS0 hS1 hbk2 hbox2 hb02 hx2 hpe2 hown2 hv2 kF2 m0 b0 b1 b2 b3
 have hcl := Hput.out.2.2
 rw [List.length_map, Hnl.out] at hcl
 cases hh
 ·have hins := Hput.out.2.1 hhe v
  have Hins := hide hins
  clear hins hhe Hs Hput
  generalize cntC E.cmp e (l.map Prod.fst) = cnt at *
  go_wp2_with fail
  have hS0 : S w2.drew := by rw [← hS]; exact ⟨H2.out.1.drew, H2.out.2.1.drew⟩
  have hbL : Below w2.heap.size w2 (w2.drew.alloc (.cells #[.pointer p0, .pointer p1, .pointer p2, .pointer p3, .iface 302 (.pointer (some gv))] 299)) := (below_drew (Below.refl w2.heap.size w2)).alloc (Nat.le_refl _) _
  have hvb : Bk (w2.drew.alloc (.cells #[.pointer p0, .pointer p1, .pointer p2, .pointer p3, .iface 302 (.pointer (some gv))] 299)) w2.heap.size 299 #[.pointer p0, .pointer p1, .pointer p2, .pointer p3, .iface 302 (.pointer (some gv))] := Bk.new w2.drew _ _
  have hownL : (w2.drew.alloc (.cells #[.pointer p0, .pointer p1, .pointer p2, .pointer p3, .iface 302 (.pointer (some gv))] 299)).ownsRow 0 299 5 (.slice sA n sc) n xs := ownsRow_below H2.out.2.2.2.2.2.1 hbL (Nat.le_refl _)
  have hltL := H2.out.2.2.2.2.2.1.lt
  have hS3 : S (w2.drew.alloc (.cells #[.pointer p0, .pointer p1, .pointer p2, .pointer p3, .iface 302 (.pointer (some gv))] 299)) := by rw [← hS]; exact ⟨H2.out.1.drew.alloc _, H2.out.2.1.drew.alloc _⟩
  have HI := hide (insertV_calls (i := cnt) (vs := [.pointer p0, .pointer p1, .pointer p2, .pointer p3, .iface 302 (.pointer (some gv))]) hownL hcl hvb rfl (by simp [Value.oneCell']) (v_ones H2.out.2.2.2.1) (fun e => by have := (hltL _ e).2; omega) (by omega))
  have HL := hide (And.intro hbL (And.intro hS3 hltL))
  clear hbL hvb hownL hltL hS3
  refine wp_region_head 11 S (by rfl) (by kernel_rfl) ?_
  have hX := hide (show ∀ W : World, S W → Bk W g t #[.slice sA n sc] ∧ Bk W w.heap.size 109 #[.pointer p0, .pointer p1, .pointer p2, .pointer p3] from fun W hSw => by rw [← hS] at hSw; exact hSw)
  iterate 9
   refine HT.nx (v := ?_) rfl (by kernel_rfl) (fun _ _ _ h => h) (Or.inl ⟨by rfl, ?_⟩) ‹_› ?_
   rotate_left
   ·intro W hSw; have hSw := hX.out W hSw; have m0 := hSw.1.cell 0; have gl := hSw.1.lt; have bl := hSw.2.lt; obtain ⟨-, hSw⟩ := hSw; have b0 := hSw.cell 0; have b1 := hSw.cell 1; have b2 := hSw.cell 2; have b3 := hSw.cell 3; clear hSw; simp at m0 b0 b1 b2 b3; go_simp; with_reducible rfl
   simp only [Act.put, zzA, zzZ, zzS]
  clear hX
  refine HT.one 9 rfl (by kernel_rfl) (by rfl) (fun K hK => ?_)
  go_simp
  refine hK.out _ _ HL.out.2.1 ?_
  clear hK
  refine HT.one 10 rfl (by kernel_rfl) (by rfl) (fun K hK => ?_)
  go_simp
  refine HI.out.mono ?_
  rintro en w4 ⟨s', rfl, hown4, hgr, hblk⟩
  have hbk4 : Bk w4 g t #[.slice sA n sc] := (H2.out.1.drew.alloc _).grown hgr (fun e => H0.out.1.sep e.symm)
  have hbox4 : Bk w4 w.heap.size 109 #[.pointer p0, .pointer p1, .pointer p2, .pointer p3] := (H2.out.2.1.drew.alloc _).grown hgr (fun e => by have := (H0.out.1.own.lt _ e.symm).2; omega)
  have hS4 : S w4 := by rw [← hS]; exact ⟨hbk4, hbox4⟩
  obtain ⟨A4, c4, rfl, _, _⟩ := own_form hown4
  go_simp
  refine hK.out _ _ hS4 ?_
  clear hK
  refine HT.done (by kernel_rfl) ?_
  have m4 := hbk4.cell 0
  simp at m4
  have f4 := hbk4.free
  have l4 := hbk4.lt
  have hsz : w2.heap.size + 1 ≤ w4.heap.size := by have := hgr.size; rw [World.size_alloc] at this; exact this
  have hkF : Keeps F w2 (w4.setCell ⟨g, 0, none⟩ (.slice A4 (n + 1) c4)) := by
   intro b hb
   have h1 := H0.out.2.1 b hb
   have h2 := H2.out.2.2.1.size
   rw [Below.heap_setCell _ _ _ _ (by simp only; exact h1.2.1), hgr.block b (by rw [World.size_alloc]; show b < w2.heap.size + 1; omega) (fun e => h1.2.2 e.symm), Below.heap_alloc _ _ _ (show b < w2.drew.heap.size from by show b < w2.heap.size; omega)]
   rfl
  have hcs := v_cells_laid (k := (e, v)) (H2.out.2.2.2.1.mono fun _ _ h => VCell.keeps h hkF) ⟨p0, p1, p2, p3, gv, rfl, H2.out.2.2.2.2.1.keeps hkF, H2.out.2.2.2.2.2.2.keeps hkF⟩ rfl (by rw [Hnl.out]; exact hcl)
  have hsep : (Value.slice A4 (n + 1) c4).ownBlock ≠ some g := by
   rcases hblk with e | ⟨b, e, hb⟩
   ·rw [e]; exact H0.out.1.sep
   ·rw [e]; intro e2; cases e2; rw [World.size_alloc] at hb; have : w2.heap.size + 1 ≤ g := hb; omega
  have hown5 : (w4.setCell ⟨g, 0, none⟩ (.slice A4 (n + 1) c4)).ownsRow 0 299 5 (.slice A4 (n + 1) c4) (n + 1) (laid 5 cnt [.pointer p0, .pointer p1, .pointer p2, .pointer p3, .iface 302 (.pointer (some gv))] xs) :=
   ownsRow_kept hown4 fun b hb => Below.heap_setCell _ _ _ _ (fun e => hsep (by rw [hb]; exact congrArg some e))
  have hbk5 : Bk (w4.setCell ⟨g, 0, none⟩ (.slice A4 (n + 1) c4)) g t #[.slice A4 (n + 1) c4] := by
   have := hbk4.set_ 0 (.slice A4 (n + 1) c4)
   simpa using this
  have hlen : (l.take cnt ++ (e, v) :: l.drop cnt).length = n + 1 := by simp; have := Hnl.out; omega
  have hG2 : Grown2 w (w4.setCell ⟨g, 0, none⟩ (.slice A4 (n + 1) c4)) g (Value.slice sA n sc).ownBlock := by
   have hb := H2.out.2.2.1
   refine ⟨(setCell_same _ _ _).1.trans (hgr.os.trans hb.os), (setCell_same _ _ _).2.1.trans (hgr.tape.trans hb.tape), (setCell_same _ _ _).2.2.1.trans (hgr.output.trans hb.output), by rw [(setCell_same _ _ _).2.2.2]; have := hb.size; omega, fun k hk hkg hkr => ?_⟩
   have h2 := hb.size
   rw [Below.heap_setCell _ _ _ _ (by simp only; exact hkg), hgr.block k (by rw [World.size_alloc]; show k < w2.heap.size + 1; omega) hkr, Below.heap_alloc _ _ _ (show k < w2.drew.heap.size from by show k < w2.heap.size; omega)]
   exact hb.block k hk
  have Hfin := hide (And.intro (EMap.mk hbk5 (by rw [hlen]; exact hown5) hcs hsep : EMap F _ t g (l.take cnt ++ (e, v) :: l.drop cnt) _ _) (And.intro (show (Value.slice A4 (n + 1) c4).ownBlock = (Value.slice sA n sc).ownBlock ∨ ∃ b, (Value.slice A4 (n + 1) c4).ownBlock = some b ∧ w.heap.size ≤ b from hblk.imp id fun ⟨b, e, hb⟩ => ⟨b, e, by have := H2.out.2.2.1.size; rw [World.size_alloc] at hb; have : w2.heap.size + 1 ≤ b := hb; omega⟩) hG2))
  clear hown4 hgr hblk hbk4 hbox4 hS4 hkF hcs hsep hown5 hbk5 hlen hG2
  go_wp2
  go_returns
  exact ⟨rfl, _, _, by rw [Hins.out]; exact Hfin.out.1, Hfin.out.2.1, Hfin.out.2.2⟩
 ·obtain ⟨k, hk1, hk2, hk3⟩ := Hput.out.1 hhe
  generalize cntC E.cmp e (l.map Prod.fst) = cnt at *
  have hcn : cnt < n := by have := (List.getElem?_eq_some_iff.1 hk1).1; rw [Hnl.out] at this; exact this
  have hkc := H2.out.2.2.2.1.2 cnt k hk1
  generalize hcs : (xs.drop (cnt * 5)).take 5 = fcs at hkc
  obtain ⟨q0, q1, q2, q3, gk, rfl, hke, -⟩ := hkc
  have hown2 := H2.out.2.2.2.2.2.1
  obtain ⟨rb, rfl, hcap⟩ : ∃ rb, sA = some ⟨rb, 0, none⟩ ∧ n ≤ sc := by
   rcases hown2.2 with ⟨e0, h0⟩ | ⟨g0, cap, cur, e0, _, _, h5, _⟩
   ·omega
   ·simp only [Value.slice.injEq, true_and] at e0
    exact ⟨g0, e0.1, by rw [e0.2]; exact h5⟩
  have hlt2 := hown2.lt rb rfl
  have hst := hown2.stored (cnt * 5 + 4) (.iface 302 (.pointer (some gv)))
  have hx4 : xs[cnt * 5 + 4]? = some (.iface 302 (.pointer (some gk))) := by
   have h4 := congrArg (·[4]?) hcs
   simp only [List.getElem?_take, List.getElem?_drop] at h4
   simpa using h4
  have c4 := (hown2.cellAt (cnt * 5 + 4) (by have := hown2.1; omega)).trans hx4
  have hfr4 : w2.frozen? ⟨rb, cnt * 5 + 4, none⟩ = false := by
   rcases hown2.2 with ⟨e0, h0⟩ | ⟨g0, cap, cur, e0, _, h4, h5, _⟩
   ·omega
   ·simp only [Value.slice.injEq, Option.some.injEq, Addr.mk.injEq, and_true, true_and] at e0
    rw [e0.1]
    simp [World.frozen?, h4]
  have m0 := H2.out.1.cell 0
  simp at m0
  have hci0 : (0 : Int) ≤ (cnt : Int) := Int.natCast_nonneg _
  have hci1 : (cnt : Int) < (n : Int) := by omega
  have hrg : rb ≠ g := fun e => H0.out.1.sep (by rw [← e]; rfl)
  have hkF : Keeps F w2 (w2.setCell ⟨rb, cnt * 5 + 4, none⟩ (.iface 302 (.pointer (some gv)))) := fun b hb =>
   Below.heap_setCell _ _ _ _ (fun e => (H0.out.2.1 b hb).2.2 (by rw [e]; rfl))
  have hset : EMap F (w2.setCell ⟨rb, cnt * 5 + 4, none⟩ (.iface 302 (.pointer (some gv)))) t g (putV e v l) (.slice (some ⟨rb, 0, none⟩) n sc) (xs.set (cnt * 5 + 4) (.iface 302 (.pointer (some gv)))) := by
   rw [hk3 v]
   refine ⟨?_, ?_, v_cells_set (H2.out.2.2.2.1.mono fun _ _ h => VCell.keeps h hkF) hk1 hcs ⟨q0, q1, q2, q3, gv, rfl, hke.keeps hkF, H2.out.2.2.2.2.2.2.keeps hkF⟩, H0.out.1.sep⟩
   ·exact (Below.heap_setCell _ _ _ _ (fun e => hrg e.symm)).trans H2.out.1
   ·rw [List.length_set, Hnl.out]
    exact hst.1
  have hG2 : Grown2 w (w2.setCell ⟨rb, cnt * 5 + 4, none⟩ (.iface 302 (.pointer (some gv)))) g (Value.slice (some ⟨rb, 0, none⟩) n sc).ownBlock := by
   have hb := H2.out.2.2.1
   refine ⟨(setCell_same _ _ _).1.trans hb.os, (setCell_same _ _ _).2.1.trans hb.tape, (setCell_same _ _ _).2.2.1.trans hb.output, by rw [(setCell_same _ _ _).2.2.2]; exact hb.size, fun k hk hkg hkr => ?_⟩
   rw [Below.heap_setCell _ _ _ _ (fun e => hkr (by rw [e]; rfl))]
   exact hb.block k hk
  have Hfin := hide (And.intro hset hG2)
  have hrbl := hlt2.2
  clear hk1 hk2 hk3 hcs hke hst hset hG2 hkF hown2 hhe hx4
  go_wp2
  go_returns
  exact ⟨rfl, _, _, Hfin.out.1, .inl rfl, Hfin.out.2⟩

set_option maxRecDepth 100000 in
set_option maxHeartbeats 4000000 in
theorem evInsert_calls {F : Nat → Prop} {w : World} {t : TypeId} {g : Nat} {l : List (E × T)} {s : Value} {xs : List Value} {e : E} {v : T} {gv : Addr} {p0 p1 p2 p3 : Option Addr} (hs : EMap F w t g l s xs) (hF : ∀ b, F b → b < w.heap.size ∧ b ≠ g ∧ s.ownBlock ≠ some b)
  (hpe : PEAt F w e [.pointer p0, .pointer p1, .pointer p2, .pointer p3]) (hv : ValAt F w v (.iface 302 (.pointer (some gv)))) (hok : VOk l) (he : e.Ok) (hn : (l.length + 1) * 48 ≤ R47) :
  Calls Tryz.prog 60 #[.pointer (some ⟨g, 0, none⟩), .agg #[.pointer p0, .pointer p1, .pointer p2, .pointer p3], .iface 302 (.pointer (some gv))] w (EMInsPost F w t g (putV e v l) s) := by
 have hbx : Below w.heap.size w (w.alloc (.cells #[.pointer p0, .pointer p1, .pointer p2, .pointer p3] 109)) := (Below.refl _ _).alloc (Nat.le_refl _) _
 obtain ⟨w1, hw1⟩ : ∃ w1, w.alloc (.cells #[.pointer p0, .pointer p1, .pointer p2, .pointer p3] 109) = w1 := ⟨_, rfl⟩
 have hbox : Bk w1 w.heap.size 109 #[.pointer p0, .pointer p1, .pointer p2, .pointer p3] := by rw [← hw1]; exact Bk.new _ _ _
 rw [hw1] at hbx
 have hsz1 : w1.heap.size = w.heap.size + 1 := by rw [← hw1, World.size_alloc]
 have hbd : Below w.heap.size w w1.drew := below_drew hbx
 have kF : Keeps F w w1.drew := Keeps.below hbd fun b hb => (hF b hb).1
 have hsl := hs.own.lt
 have hgl := hs.bk.lt
 have hs1 : EMap F w1.drew t g l s xs := ⟨hs.bk.below hbd hgl, ownsRow_below hs.own hbd (Nat.le_refl _), hs.at_.mono fun _ _ h => VCell.keeps h kF, hs.sep⟩
 have HI := hide (emInsert_calls hs1 (fun b hb => ⟨by have := (hF b hb).1; show b < w1.heap.size; omega, (hF b hb).2⟩) (hpe.keeps kF) (hv.keeps kF) hok he hn)
 have Hb := hide (And.intro hbd hsl)
 have b0 := hbox.cell 0
 have b1 := hbox.cell 1
 have b2 := hbox.cell 2
 have b3 := hbox.cell 3
 simp at b0 b1 b2 b3
 clear hs hF hpe hv hok he hn hbx hbox hbd kF hsl hs1
 go_enter Tryz.func60, Tryz.ntmps60
 go_wp2_with fail
 try rw [hw1]
 go_still_tail 5, (by kernel_rfl)
 change wpList _ _ _ _ _ w1.drew
 go_wp2_with fail
 refine HI.out.mono ?_
 rintro en w2 ⟨rfl, s', xs', h1, h2, h3⟩
 have Hfin := hide (show EMInsPost F w t g (putV e v l) s (.returned (.tuple #[])) w2 from by
  refine ⟨rfl, s', xs', h1, h2.imp id fun ⟨b, e, hb⟩ => ⟨b, e, by have hb : w1.heap.size ≤ b := hb; omega⟩, h3.os.trans Hb.out.1.os, h3.tape.trans Hb.out.1.tape, h3.output.trans Hb.out.1.output, Nat.le_trans Hb.out.1.size h3.size, fun k hk hkg hkr => ?_⟩
  rw [h3.block k (by show k < w1.heap.size; omega) hkg hkr]
  exact Hb.out.1.block k hk)
 clear h1 h2 h3 HI Hb
 go_wp2
 go_returns
 exact Hfin.out

def EMGetPost (l : List (E × T)) (e : E) (F : Nat → Prop) (w : World) (en : Ending) (w' : World) : Prop :=
 Below w.heap.size w w' ∧ ((∃ (v : T) (gv : Addr), findV e l = some v ∧ en = .returned (.tuple #[.iface 302 (.pointer (some gv)), .bool true]) ∧ ValAt F w v (.iface 302 (.pointer (some gv)))) ∨
  (findV e l = none ∧ en = .returned (.tuple #[.nilIface, .bool false])))

set_option maxRecDepth 100000 in
set_option maxHeartbeats 4000000 in
theorem emGet_calls {F : Nat → Prop} {w : World} {t : TypeId} {g : Nat} {l : List (E × T)} {s : Value} {xs : List Value} {e : E} {p0 p1 p2 p3 : Option Addr} (hs : EMap F w t g l s xs) (hF : ∀ b, F b → b < w.heap.size ∧ b ≠ g ∧ s.ownBlock ≠ some b)
  (hpe : PEAt F w e [.pointer p0, .pointer p1, .pointer p2, .pointer p3]) (hok : VOk l) (he : e.Ok) (hn : (l.length + 1) * 48 ≤ R47) :
  Calls Tryz.prog 115 #[.pointer (some ⟨g, 0, none⟩), .agg #[.pointer p0, .pointer p1, .pointer p2, .pointer p3]] w (EMGetPost l e F w) := by
 have hn' : (l.length + 1) * 48 ≤ 140737488351232 := hn
 have hg := hs.bk.lt
 have hlt := hs.own.lt
 obtain ⟨sA, sc, rfl, hc1, hc2⟩ := own_form hs.own
 have hbx : Below w.heap.size w (w.alloc (.cells #[.pointer p0, .pointer p1, .pointer p2, .pointer p3] 109)) := (Below.refl _ _).alloc (Nat.le_refl _) _
 obtain ⟨w1, hw1⟩ : ∃ w1, w.alloc (.cells #[.pointer p0, .pointer p1, .pointer p2, .pointer p3] 109) = w1 := ⟨_, rfl⟩
 have hbox : Bk w1 w.heap.size 109 #[.pointer p0, .pointer p1, .pointer p2, .pointer p3] := by rw [← hw1]; exact Bk.new _ _ _
 rw [hw1] at hbx
 have hsz1 : w1.heap.size = w.heap.size + 1 := by rw [← hw1, World.size_alloc]
 have kF : Keeps F w w1 := Keeps.below hbx fun b hb => (hF b hb).1
 have hx1 := hs.at_.mono fun _ _ h => VCell.keeps h kF
 have hpe1 := hpe.keeps kF
 have hown1 : w1.ownsRow 0 299 5 (.slice sA l.length sc) l.length xs := by rw [← hw1]; exact hs.own.alloc _
 have hlt1 := hown1.lt
 have hsearch := searchV_calls (f := 174) (fun args W => by kernel_rfl) (Q := fun W a cs => ∃ t, VCell (Old W) W (a, t) cs) (l := l.map Prod.fst) (A := sA) (c := sc) (w := w1.drew) (xs := xs) (e := e) (t0 := .pointer p0) (t1 := .pointer p1) (t2 := .pointer p2) (t3 := .pointer p3)
  (by rw [List.length_map]; unfold R47; omega) (by rw [List.length_map]; exact ((Row.of_own hown1 fun b hb => (hlt1 b hb).2).keeps (Keeps.below (below_drew (Below.refl w1.heap.size w1)) fun _ h => h))) (vkeys_cells (hx1.mono fun a cs h => (VCell.mono h fun b hb => by have := (hF b hb).1; show b < w1.heap.size; omega).at_ (below_drew (Below.refl _ _))))
  (fun W a cs hb ⟨t, h⟩ => ⟨t, h.at_ hb⟩) (fun W a cs ⟨t, h⟩ => by obtain ⟨a0, a1, a2, a3, gv, rfl, -, -⟩ := h; rfl) hok.keys.1 he hok.keys.2
  (fun a cs W hb ⟨t, h⟩ => emGetCmp h ((hpe1.mono fun b hb => by have := (hF b hb).1; show b < w1.heap.size; omega).at_ ((below_drew (Below.refl w1.heap.size w1)).trans hb)))
 rw [List.length_map] at hsearch
 have hbk1 : Bk w1 g t #[.slice sA l.length sc] := hs.bk.below hbx hg
 have Hs := hide hsearch
 have Hput := hide (And.intro (fun h => putV_found (e := e) (ks := l) h) (And.intro (fun h => findV_none he hok h) (fun k (hk : k ∈ l) h0 => findV_of he hok hk h0)))
 have hownw := hs.own
 have H0 := hide (And.intro hs (And.intro hF hbx))
 obtain ⟨n, hnl⟩ : ∃ n, l.length = n := ⟨_, rfl⟩
 have Hnl := hide hnl
 rw [hnl] at hn' hbk1 Hs hownw
 have Hbk := hide (And.intro hbk1 hbox)
 have m0 := hbk1.cell 0
 have b0 := hbox.cell 0
 have b1 := hbox.cell 1
 have b2 := hbox.cell 2
 have b3 := hbox.cell 3
 simp at m0 b0 b1 b2 b3
 have hgl1 := hbk1.lt
 have hxl1 := hbox.lt
 have Hown := hide hownw
 clear hsearch hs hF hx1 hpe1 hown1 hbx hbk1 hbox hlt hlt1 hpe kF hc1 hc2 hok hn hownw
 clear hnl
 go_enter Tryz.func115, Tryz.ntmps115
 go_wp2_with fail
 try rw [hw1]
 obtain ⟨S, hS⟩ : ∃ S, (fun W => Bk W g t #[.slice sA n sc] ∧ Bk W w.heap.size 109 #[.pointer p0, .pointer p1, .pointer p2, .pointer p3]) = S := ⟨_, rfl⟩
 have hS0 : S w1.drew := by rw [← hS]; exact ⟨Hbk.out.1.drew, Hbk.out.2.drew⟩
 refine wp_region_head 10 S (by rfl) (by kernel_rfl) ?_
 have hX := hide (show ∀ W : World, S W → Bk W g t #[.slice sA n sc] ∧ Bk W w.heap.size 109 #[.pointer p0, .pointer p1, .pointer p2, .pointer p3] from fun W hSw => by rw [← hS] at hSw; exact hSw)
 iterate 5
  refine HT.nx (v := ?_) rfl (by kernel_rfl) (fun _ _ _ h => h) (Or.inl ⟨by rfl, ?_⟩) ‹_› ?_
  rotate_left
  ·intro W hSw; have hSw := hX.out W hSw; have m0 := hSw.1.cell 0; have gl := hSw.1.lt; have bl := hSw.2.lt; obtain ⟨-, hSw⟩ := hSw; have b0 := hSw.cell 0; have b1 := hSw.cell 1; have b2 := hSw.cell 2; have b3 := hSw.cell 3; clear hSw; simp at m0 b0 b1 b2 b3; go_simp; with_reducible rfl
  simp only [Act.put, zzA, zzZ, zzS]
 clear hX
 refine HT.one 5 rfl (by kernel_rfl) (by rfl) (fun K hK => ?_)
 go_simp
 refine Hs.out.mono ?_
 rintro en w2 ⟨rfl, hb2⟩
 have hb2' : Below w1.heap.size w1 w2 := below_drew' hb2
 have hS1 : S w2 := by rw [← hS]; exact ⟨Hbk.out.1.drew.below hb2 hgl1, Hbk.out.2.drew.below hb2 hxl1⟩
 obtain ⟨hh, hhe⟩ : ∃ hh, hasC E.cmp e (l.map Prod.fst) = hh := ⟨_, rfl⟩
 rw [hhe]
 go_simp
 refine hK.out _ _ hS1 ?_
 clear hK
 iterate 4
  refine HT.nx (v := ?_) rfl (by kernel_rfl) (fun _ _ _ h => h) (Or.inl ⟨by rfl, ?_⟩) ‹_› ?_
  rotate_left
  ·intro W hSw; go_simp; with_reducible rfl
  simp only [Act.put, zzA, zzZ, zzS]
 refine HT.done (by kernel_rfl) ?_
 have hbk2 : Bk w2 g t #[.slice sA n sc] := Hbk.out.1.drew.below hb2 hgl1
 have Hb := hide (H0.out.2.2.trans (hb2'.mono H0.out.2.2.size))
 have m2 := hbk2.cell 0
 simp at m2
 have hgl2 := hbk2.lt
 clear hb2 hb2' hS0 hS1 hbk2 Hs m0 b0 b1 b2 b3 Hbk
 cases hh
 ·have Hf := hide (Hput.out.2.1 hhe)
  clear hhe Hput
  go_wp2
  go_ret2
  exact ⟨Hb.out, .inr ⟨Hf.out, rfl⟩⟩
 ·obtain ⟨k, hk1, hk2, -⟩ := Hput.out.1 hhe
  have hf := Hput.out.2.2 k (List.mem_of_getElem? hk1) hk2
  generalize cntC E.cmp e (l.map Prod.fst) = cnt at *
  have hcn : cnt < n := by have := (List.getElem?_eq_some_iff.1 hk1).1; rw [Hnl.out] at this; exact this
  have hkc := H0.out.1.at_.2 cnt k hk1
  generalize hcs : (xs.drop (cnt * 5)).take 5 = fcs at hkc
  obtain ⟨q0, q1, q2, q3, gk, rfl, -, hkv⟩ := hkc
  obtain ⟨rb, ro, rfl, hFr, hc⟩ := rown_at (Row.of_own (F := Old w) Hown.out fun b hb => (Hown.out.lt b hb).2) hcn hcs
  have c4 := ((bcell Hb.out).1 rb _ hFr).trans (hc 4 _ rfl)
  have hrl : rb < w.heap.size := hFr
  have hci0 : (0 : Int) ≤ (cnt : Int) := Int.natCast_nonneg _
  have hci1 : (cnt : Int) < (n : Int) := by omega
  have Hk := hide (And.intro hf hkv)
  clear hk1 hk2 hf hkv hcs hc hFr hhe Hput
  go_wp2
  go_ret2
  exact ⟨Hb.out, .inl ⟨k.2, gk, Hk.out.1, rfl, Hk.out.2⟩⟩

set_option maxRecDepth 100000 in
set_option maxHeartbeats 4000000 in
theorem evGet_calls {F : Nat → Prop} {w : World} {t : TypeId} {g : Nat} {l : List (E × T)} {s : Value} {xs : List Value} {e : E} {p0 p1 p2 p3 : Option Addr} (hs : EMap F w t g l s xs) (hF : ∀ b, F b → b < w.heap.size ∧ b ≠ g ∧ s.ownBlock ≠ some b)
  (hpe : PEAt F w e [.pointer p0, .pointer p1, .pointer p2, .pointer p3]) (hok : VOk l) (he : e.Ok) (hn : (l.length + 1) * 48 ≤ R47) :
  Calls Tryz.prog 63 #[.pointer (some ⟨g, 0, none⟩), .agg #[.pointer p0, .pointer p1, .pointer p2, .pointer p3]] w (EMGetPost l e F w) := by
 have hbx : Below w.heap.size w (w.alloc (.cells #[.pointer p0, .pointer p1, .pointer p2, .pointer p3] 109)) := (Below.refl _ _).alloc (Nat.le_refl _) _
 obtain ⟨w1, hw1⟩ : ∃ w1, w.alloc (.cells #[.pointer p0, .pointer p1, .pointer p2, .pointer p3] 109) = w1 := ⟨_, rfl⟩
 have hbox : Bk w1 w.heap.size 109 #[.pointer p0, .pointer p1, .pointer p2, .pointer p3] := by rw [← hw1]; exact Bk.new _ _ _
 rw [hw1] at hbx
 have hsz1 : w1.heap.size = w.heap.size + 1 := by rw [← hw1, World.size_alloc]
 have hbd : Below w.heap.size w w1.drew := below_drew hbx
 have kF : Keeps F w w1.drew := Keeps.below hbd fun b hb => (hF b hb).1
 have hgl := hs.bk.lt
 have hs1 : EMap F w1.drew t g l s xs := ⟨hs.bk.below hbd hgl, ownsRow_below hs.own hbd (Nat.le_refl _), hs.at_.mono fun _ _ h => VCell.keeps h kF, hs.sep⟩
 have HI := hide (emGet_calls hs1 (fun b hb => ⟨by have := (hF b hb).1; show b < w1.heap.size; omega, (hF b hb).2⟩) (hpe.keeps kF) hok he hn)
 have hkF : ∀ v gv, ValAt F w1.drew v (.iface 302 (.pointer (some gv))) → ValAt F w v (.iface 302 (.pointer (some gv))) := fun v gv h => h.keeps fun b hb => (kF b hb).symm
 have Hb := hide (And.intro hbd hkF)
 have b0 := hbox.cell 0
 have b1 := hbox.cell 1
 have b2 := hbox.cell 2
 have b3 := hbox.cell 3
 simp at b0 b1 b2 b3
 obtain ⟨S, hS⟩ : ∃ S, (fun W => Bk W w.heap.size 109 #[.pointer p0, .pointer p1, .pointer p2, .pointer p3]) = S := ⟨_, rfl⟩
 have hS0 : S w1.drew := by rw [← hS]; exact hbox.drew
 have hxl := hbox.lt
 clear hs hF hpe hok he hn hbx hbox hbd kF hs1 hkF
 go_enter Tryz.func63, Tryz.ntmps63
 go_wp2_with fail
 try rw [hw1]
 refine wp_region_head 9 S (by rfl) (by kernel_rfl) ?_
 have hX := hide (show ∀ W : World, S W → Bk W w.heap.size 109 #[.pointer p0, .pointer p1, .pointer p2, .pointer p3] from fun W hSw => by rw [← hS] at hSw; exact hSw)
 iterate 4
  refine HT.nx (v := ?_) rfl (by kernel_rfl) (fun _ _ _ h => h) (Or.inl ⟨by rfl, ?_⟩) ‹_› ?_
  rotate_left
  ·intro W hSw; have hSw := hX.out W hSw; have bl := hSw.lt; have b0 := hSw.cell 0; have b1 := hSw.cell 1; have b2 := hSw.cell 2; have b3 := hSw.cell 3; clear hSw; simp at b0 b1 b2 b3; go_simp; with_reducible rfl
  simp only [Act.put, zzA, zzZ, zzS]
 clear hX
 refine HT.one 4 rfl (by kernel_rfl) (by rfl) (fun K hK => ?_)
 go_simp
 refine HI.out.mono ?_
 rintro en w2 ⟨hb2, hor⟩
 have hS1 : S w2 := by
  rw [← hS] at hS0 ⊢
  exact hS0.below hb2 hS0.lt
 have H2 := hide (Hb.out.1.trans (hb2.mono (by have := Hb.out.1.size; exact this)))
 clear hb2 HI b0 b1 b2 b3
 rcases hor with ⟨v, gv, hf, rfl, hv⟩ | ⟨hf, rfl⟩
 ·have Hf := hide (And.intro hf (Hb.out.2 v gv hv))
  clear hf hv
  go_simp
  refine hK.out _ _ hS1 ?_
  clear hK
  iterate 4
   refine HT.nx (v := ?_) rfl (by kernel_rfl) (fun _ _ _ h => h) (Or.inl ⟨by rfl, ?_⟩) ‹_› ?_
   rotate_left
   ·intro W hSw; go_simp; with_reducible rfl
   simp only [Act.put, zzA, zzZ, zzS]
  refine HT.done (by kernel_rfl) ?_
  clear hS0 hS1 hS
  go_wp2
  go_ret2
  exact ⟨H2.out, .inl ⟨v, gv, Hf.out.1, rfl, Hf.out.2⟩⟩
 ·have Hf := hide hf
  clear hf
  go_simp
  refine hK.out _ _ hS1 ?_
  clear hK
  iterate 4
   refine HT.nx (v := ?_) rfl (by kernel_rfl) (fun _ _ _ h => h) (Or.inl ⟨by rfl, ?_⟩) ‹_› ?_
   rotate_left
   ·intro W hSw; go_simp; with_reducible rfl
   simp only [Act.put, zzA, zzZ, zzS]
  refine HT.done (by kernel_rfl) ?_
  clear hS0 hS1 hS
  go_wp2
  go_ret2
  exact ⟨H2.out, .inr ⟨Hf.out, rfl⟩⟩

end Go.Proofs.YtbicoknghdgahaaGreat

namespace Go.Proofs.YtbicoknghdgahaaGreat
open Go.RowKit

structure B2 (w : World) (t : TypeId) (a0 a1 a2 a3 a4 a5 b0 b1 b2 b3 b4 b5 : Value) (W : World) : Prop where
 below : Below w.heap.size w W
 a : Bk W w.heap.size t #[a0, a1, a2, a3, a4, a5]
 b : Bk W (w.heap.size + 1) t #[b0, b1, b2, b3, b4, b5]
section
variable {w W W' : World} {t : TypeId} {a0 a1 a2 a3 a4 a5 b0 b1 b2 b3 b4 b5 : Value}
theorem B2.call (h : B2 w t a0 a1 a2 a3 a4 a5 b0 b1 b2 b3 b4 b5 W) (hb : Below W.heap.size W W') : B2 w t a0 a1 a2 a3 a4 a5 b0 b1 b2 b3 b4 b5 W' :=
 ⟨h.below.trans (hb.mono h.below.size), h.a.below hb h.a.lt, h.b.below hb h.b.lt⟩
theorem B2.made (w : World) (t : TypeId) (a0 a1 a2 a3 a4 a5 b0 b1 b2 b3 b4 b5 : Value) : B2 w t a0 a1 a2 a3 a4 a5 b0 b1 b2 b3 b4 b5 ((w.alloc (.cells #[a0, a1, a2, a3, a4, a5] t)).alloc (.cells #[b0, b1, b2, b3, b4, b5] t)) := by
 refine ⟨below_two w _ _, (Bk.new _ _ _).alloc _, ?_⟩
 have := Bk.new (w.alloc (.cells #[a0, a1, a2, a3, a4, a5] t)) t #[b0, b1, b2, b3, b4, b5]
 simpa only [World.size_alloc] using this
theorem B2.kind (h : B2 w t a0 a1 a2 a3 a4 a5 b0 b1 b2 b3 b4 b5 W) (u v : Value) :
  B2 w t u a1 a2 a3 a4 a5 v b1 b2 b3 b4 b5 ((W.setCell ⟨w.heap.size, 0, none⟩ u).setCell ⟨w.heap.size + 1, 0, none⟩ v) := by
 have h1 := (h.a.set_ 0 u).far (p := ⟨w.heap.size + 1, 0, none⟩) (by show w.heap.size ≠ w.heap.size + 1; omega) v
 have h2 := (h.b.far (p := ⟨w.heap.size, 0, none⟩) (by show w.heap.size + 1 ≠ w.heap.size; omega) u).set_ 0 v
 simp at h1 h2
 exact ⟨(h.below.setCell (by show w.heap.size ≤ w.heap.size; omega) _).setCell (by show w.heap.size ≤ w.heap.size + 1; omega) _, h1, h2⟩
end


end Go.Proofs.YtbicoknghdgahaaGreat
