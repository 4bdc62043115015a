/- Parts: Zip. -/
import Derived.Test.YtbicoknghdgahaaGreatKA04
import Derived.Deep.DeepCutAuto
set_option linter.unusedVariables false
set_option linter.unusedSimpArgs false
namespace Go.Proofs.YtbicoknghdgahaaGreat
open Go.RowKit
attribute [local go_sem] run_store_float run_load_k

theorem str_info' : (Tryz.prog.info? 9).map (fun i => (i.zero, i.size, i.bytes)) = some (some (.string ⟨#[]⟩), 1, 16) := by kernel_rfl

theorem ownsRow_far {w : World} {base : Nat} {e : TypeId} {size n : Nat} {v : Value} {xs : List Value} (h : w.ownsRow base e size v n xs) {p : Addr} (hne : some p.block ≠ v.ownBlock) (u : Value) : (w.setCell p u).ownsRow base e size v n xs := by
 refine ⟨h.1, ?_⟩
 rcases h.2 with h0 | ⟨g, cap, cur, rfl, h3, hh, rest⟩
 ·exact .inl h0
 ·exact .inr ⟨g, cap, cur, rfl, h3, (Below.heap_setCell _ _ _ _ (by intro e1; exact hne (by rw [← e1]; rfl))).trans hh, rest⟩

def Keys (w : World) (B gt g : Nat) (vis : List ByteArray) (W : World) : Prop :=
 ∃ out, Bk W gt 24 #[out] ∧ W.ownsRow B 9 1 out vis.length (vis.map Value.string) ∧ (∀ b, out.ownBlock = some b → b ≠ g ∧ b ≠ g + 1) ∧ Below B w W
theorem Keys.butTwo {w W W' : World} {B gt g : Nat} {vis : List ByteArray} (h : Keys w B gt g vis W) (hgt : gt < g) (hB : B ≤ gt) (hk : ButTwo g W W') : Keys w B gt g vis W' := by
 obtain ⟨out, h1, h2, h3, h4⟩ := h
 refine ⟨out, (hk.block gt h1.lt (by omega) (by omega)).trans h1, ⟨h2.1, ?_⟩, h3, ⟨hk.os.trans h4.os, hk.tape.trans h4.tape, hk.output.trans h4.output, Nat.le_trans h4.size hk.size, fun b hb => (hk.block b (Nat.lt_of_lt_of_le hb ?_) (by omega) (by omega)).trans (h4.block b hb)⟩⟩
 ·rcases h2.2 with h0 | ⟨g', cap, cur, rfl, q1, hh, rest⟩
  ·exact .inl h0
  ·have := h3 g' rfl
   exact .inr ⟨g', cap, cur, rfl, q1, (hk.block g' (Array.getElem?_eq_some_iff.1 hh).1 this.1 this.2).trans hh, rest⟩
 ·have := h1.lt
  omega

theorem Keys.next {w W w2 : World} {B gt g : Nat} {vis : List ByteArray} {k : ByteArray} {out v' : Value} (hg : g + 2 ≤ W.heap.size) (hgt : gt < g) (hB : B ≤ gt)
  (h1 : Bk W gt 24 #[out]) (hown : W.ownsRow B 9 1 out vis.length (vis.map Value.string)) (hne : ∀ b, out.ownBlock = some b → b ≠ g ∧ b ≠ g + 1) (hb : Below B w W)
  (hown2 : w2.ownsRow B 9 1 v' (vis.length + 1) (vis.map Value.string ++ [.string k])) (hg2 : (W.alloc (.cells #[.string k] 9)).grownBy w2 out.ownBlock)
  (hv : v'.ownBlock = out.ownBlock ∨ v'.ownBlock = some (W.heap.size + 1)) :
  Keys w B gt g (vis ++ [k]) (w2.setCell ⟨gt, 0, none⟩ v') ∧ (∀ b, b < W.heap.size → (b < B ∨ b = g ∨ b = g + 1) → (w2.setCell ⟨gt, 0, none⟩ v').heap[b]? = W.heap[b]?) := by
 have hg3 : Bk w2 gt 24 #[out] := (h1.alloc _).grown hg2 (own_ne hown h1 (by decide))
 have hfar := ownsRow_far hown2 (p := ⟨gt, 0, none⟩) (own_ne hown2 hg3 (by decide)) v'
 have hk : ∀ b, b < W.heap.size → (b < B ∨ b = g ∨ b = g + 1) → (w2.setCell ⟨gt, 0, none⟩ v').heap[b]? = W.heap[b]? := by
  intro b hb0 hb1
  rw [Below.heap_setCell _ _ _ _ (by show b ≠ gt; omega), hg2.block b (by simp; omega) ?_, Below.heap_alloc _ _ _ hb0]
  intro e
  have e := e.symm
  rcases hb1 with hb1 | hb1
  ·have := (hown.lt b e).1
   omega
  ·have := hne b e
   omega
 refine ⟨⟨v', by simpa using hg3.set_ 0 v', by simpa using hfar, ?_, ?_⟩, hk⟩
 ·intro b e
  rcases hv with hv | hv
  ·exact hne b (by rw [← hv]; exact e)
  ·rw [hv] at e
   have := Option.some.inj e
   omega
 ·have hgt2 := h1.lt
  refine ⟨(by show w2.os = _; rw [hg2.os]; exact hb.os), (by show w2.tape = _; rw [hg2.tape]; exact hb.tape), (by show w2.output = _; rw [hg2.output]; exact hb.output), ?_, fun b hb' => (hk b (by omega) (.inl hb')).trans (hb.block b hb')⟩
  have := hg2.size
  have := hb.size
  simp at *
  omega

set_option maxRecDepth 100000 in
set_option maxHeartbeats 1000000 in
theorem collect1_calls (w : World) (B gt g : Nat) (vis : List ByteArray) (k : ByteArray) (x : Value) (W : World) (hn : (vis.length + 1) * 16 ≤ R47) (hg : g + 2 ≤ W.heap.size) (hgt : gt < g) (hB : B ≤ gt) (h : Keys w B gt g vis W) :
  Calls Tryz.prog 357 #[.string k, x, .pointer (some ⟨gt, 0, none⟩)] W fun e W' => e = .returned (.bool true) ∧ Keys w B gt g (vis ++ [k]) W' ∧ (∀ b, b < W.heap.size → (b < B ∨ b = g ∨ b = g + 1) → W'.heap[b]? = W.heap[b]?) := by
 obtain ⟨i9, hi9, hz9, hs9, hb9⟩ := info_parts str_info'
 obtain ⟨out, hgk, hown, hne, hbw⟩ := h
 have q0 := hgk.cell 0
 have q3 : ∀ i, W.frozen? ⟨gt, i, none⟩ = false := fun i => hgk.free i
 have hgl := hgk.lt
 simp at q0
 have Hfin := fun w2 v' => hide (Keys.next (k := k) (w2 := w2) (v' := v') hg hgt hB hgk hown hne hbw)
 obtain ⟨oA, oc, rfl, ho1, ho2⟩ := own_form hown
 clear hne hbw
 go_enter Tryz.func357, Tryz.ntmps357
 go_wp2_with (at_builtin; refine wpList_append_own_at _ rfl (.tmp 6) (.tmp 8) 24 rfl B 9 i9 _ 1 16 Tryz.underlying24 hi9 hz9 hs9 hb9 rfl (by omega) _ vis.length _ rfl (hown.alloc _) ⟨W.heap.size, 0, none⟩ 1 1 [.string k] rfl rfl (cells_at _ [.string k] _ _ rfl) ?c1 ?c2 ?c3 ?c4 ?_)
 case c1 => simp [Value.oneCell']
 case c2 => unfold R47 at hn; unfold maxLen; omega
 case c3 => unfold R47 at hn; omega
 case c4 => simp only [World.size_alloc]; omega
 intro v' w2 hown2 hg2 _ hv2
 have hg3 : Bk w2 gt 24 #[.slice oA vis.length oc] := (hgk.alloc _).grown hg2 (own_ne hown hgk (by decide))
 have Hend := hide ((Hfin w2 v').out hown2 hg2 hv2)
 have p0 := hg3.cell 0
 have p3 : ∀ i, w2.frozen? ⟨gt, i, none⟩ = false := fun i => hg3.free i
 simp at p0
 obtain ⟨nA, nc, rfl, hn1, hn2⟩ := own_form hown2
 clear Hfin hown hown2 hgk hg2 hg3 hv2 q0 q3
 go_wp2
 go_ret
 exact ⟨rfl, Hend.out⟩

theorem meth_Has (n : Nat) (v : Value) (w : World) : (method (n + 1) 453 v "Has").run Tryz.prog w = .ok (344, v) w := by kernel_rfl
attribute [local go_sem] meth_Has

set_option maxRecDepth 100000 in
set_option maxHeartbeats 1000000 in
theorem collect2_calls (w : World) (B gt g gl r : Nat) (ks1 : List ByteArray) (val : ByteArray → Value) (vis : List ByteArray) (k : ByteArray) (x : Value) (W : World) (hn : (vis.length + 1) * 16 ≤ R47) (hg : g + 2 ≤ W.heap.size) (hgt : gt < g) (hB : B ≤ gt)
  (hl : Bk W gl 357 #[.iface 453 (.map (some r))]) (hm : MapIs W r ks1 val) (h : Keys w B gt g vis W) :
  Calls Tryz.prog 358 #[.string k, x, .pointer (some ⟨gl, 0, none⟩), .pointer (some ⟨gt, 0, none⟩)] W fun e W' => e = .returned (.bool true) ∧ Keys w B gt g (if hasK k ks1 = true then vis else vis ++ [k]) W' ∧ (∀ b, b < W.heap.size → (b < B ∨ b = g ∨ b = g + 1) → W'.heap[b]? = W.heap[b]?) := by
 obtain ⟨i9, hi9, hz9, hs9, hb9⟩ := info_parts str_info'
 have Hh := hide h
 obtain ⟨out, hgk, hown, hne, hbw⟩ := h
 have q0 := hgk.cell 0
 have q1 := hl.cell 0
 have q3 : ∀ i, W.frozen? ⟨gt, i, none⟩ = false := fun i => hgk.free i
 have hgl := hgk.lt
 have hgl2 := hl.lt
 simp at q0 q1
 have Hfin := fun w2 v' => hide (Keys.next (k := k) (w2 := w2) (v' := v') hg hgt hB hgk hown hne hbw)
 obtain ⟨oA, oc, rfl, ho1, ho2⟩ := own_form hown
 have Hm := hide hm
 clear hne hbw hm
 cases hk : hasK k ks1
 ·have Hk := hide hk
  clear hk
  go_enter Tryz.func358, Tryz.ntmps358
  go_wp2_with fail
  have hcall := mapHas_calls Hm.out k
  rw [Hk.out] at hcall
  refine hcall.mono ?_
  clear hcall
  rintro e w1 ⟨rfl, rfl⟩
  go_wp2_with (at_builtin; refine wpList_append_own_at _ rfl (.tmp 15) (.tmp 17) 24 rfl B 9 i9 _ 1 16 Tryz.underlying24 hi9 hz9 hs9 hb9 rfl (by omega) _ vis.length _ rfl (hown.alloc _) ⟨W.heap.size, 0, none⟩ 1 1 [.string k] rfl rfl (cells_at _ [.string k] _ _ rfl) ?c1 ?c2 ?c3 ?c4 ?_)
  case c1 => simp [Value.oneCell']
  case c2 => unfold R47 at hn; unfold maxLen; omega
  case c3 => unfold R47 at hn; omega
  case c4 => simp only [World.size_alloc]; omega
  intro v' w2 hown2 hg2 _ hv2
  have hg3 : Bk w2 gt 24 #[.slice oA vis.length oc] := (hgk.alloc _).grown hg2 (own_ne hown hgk (by decide))
  have Hend := hide ((Hfin w2 v').out hown2 hg2 hv2)
  have p0 := hg3.cell 0
  have p3 : ∀ i, w2.frozen? ⟨gt, i, none⟩ = false := fun i => hg3.free i
  simp at p0
  obtain ⟨nA, nc, rfl, hn1, hn2⟩ := own_form hown2
  clear Hfin hown hown2 hgk hg2 hg3 hv2 q0 q3
  go_wp2
  go_ret
  exact ⟨rfl, Hend.out⟩
 ·have Hk := hide hk
  clear hk
  go_enter Tryz.func358, Tryz.ntmps358
  go_wp2_with fail
  have hcall := mapHas_calls Hm.out k
  rw [Hk.out] at hcall
  refine hcall.mono ?_
  clear hcall
  rintro e w1 ⟨rfl, rfl⟩
  go_wp2
  go_ret
  exact ⟨rfl, Hh.out, fun b _ _ => rfl⟩

end Go.Proofs.YtbicoknghdgahaaGreat

namespace Go.Proofs.YtbicoknghdgahaaGreat
open Go.RowKit

theorem Keys.fresh {w W : World} {B gt g : Nat} {vis : List ByteArray} (h : Keys w B gt g vis W) : Keys w B gt W.heap.size vis W := by
 obtain ⟨out, h1, h2, h3, h4⟩ := h
 refine ⟨out, h1, h2, fun b hb => ?_, h4⟩
 have := (h2.lt b hb).2
 omega
theorem Keys.belowAll {w W W' : World} {B gt g : Nat} {vis : List ByteArray} (h : Keys w B gt g vis W) (hk : Below W.heap.size W W') (hB : B ≤ gt) : Keys w B gt g vis W' := by
 obtain ⟨out, h1, h2, h3, h4⟩ := h
 have := h1.lt
 exact ⟨out, h1.below hk h1.lt, ownsRow_below h2 hk (Nat.le_refl _), h3, h4.trans (hk.mono (by omega))⟩

theorem collectAll1 {r B gt : Nat} {ks : List ByteArray} {val : ByteArray → Value} {w wx : World} (hB : B ≤ gt) (hK : Keys w B gt wx.heap.size [] wx) (hm : MapIs wx r ks val) (hr : r < B) (hval : ∀ k ∈ ks, ∃ F W t, AnyAt F W t (val k)) (hn : (ks.length + 1) * 16 ≤ R47) (pa : Addr)
  (hcf : ∀ (args : Array Value) (W : World), (callFunc 357 args).run Tryz.prog W = .ok (.enter 357 args) W) :
  Calls Tryz.prog 346 #[.map (some r), .iface 303 (.pointer (some pa)), .func (.func 357) #[] #[.pointer (some ⟨gt, 0, none⟩)]] wx
   fun e w' => e = .returned (.bool true) ∧ ∃ vis : List ByteArray, vis.Perm ks ∧ Keys w B gt w'.heap.size vis w' := by
 by_cases h0 : ks = []
 ·subst h0
  refine (iterate_none hm pa _).mono ?_
  rintro e w' ⟨rfl, rfl⟩
  exact ⟨rfl, [], List.Perm.refl _, hK⟩
 ·have hgt : gt < wx.heap.size := by
   obtain ⟨out, h1, _⟩ := hK
   exact h1.lt
  refine (iterate_some hm h0 pa _ _ hcf (fun vis W => Keys w B gt wx.heap.size vis W ∧ (∀ k ∈ vis, k ∈ ks) ∧ vis.Nodup) (fun _ => False) ⟨hK, by simp, by simp⟩ hval ?_ ?_ ?_).mono ?_
  ·intro vis W W' hJ _ hk
   exact ⟨hJ.1.butTwo hgt hB hk, hJ.2⟩
  ·intro vis W' hJ hk
   exact ⟨hJ.1.belowAll hk hB, hJ.2⟩
  ·intro vis k W hk hnk hJ hsz _ hmW
   have hle : vis.length + 1 ≤ ks.length := by
    have hnd : (k :: vis).Nodup := List.nodup_cons.2 ⟨hnk, hJ.2.2⟩
    have := hnd.length_le_of_subset (l₂ := ks) (by
     intro x hx
     rcases List.mem_cons.1 hx with rfl | hx
     ·exact hk
     ·exact hJ.2.1 x hx)
    simpa using this
   refine (collect1_calls w B gt wx.heap.size vis k _ W (Nat.le_trans (Nat.mul_le_mul_right _ (by omega)) hn) hsz hgt hB hJ.1).mono ?_
   rintro e W' ⟨rfl, hK', hst⟩
   refine ⟨.inl ⟨rfl, hK', ?_, ?_⟩, hst r (by have := hmW.lt; omega) (.inl hr), hst _ (by omega) (.inr (.inl rfl)), hst _ (by omega) (.inr (.inr rfl))⟩
   ·intro x hx
    rcases List.mem_append.1 hx with hx | hx
    ·exact hJ.2.1 x hx
    ·rw [List.mem_singleton.1 hx]; exact hk
   ·refine List.nodup_append.2 ⟨hJ.2.2, by simp, ?_⟩
    intro a ha b hb
    rw [List.mem_singleton.1 hb]
    rintro rfl
    exact hnk ha
  ·rintro e w' (⟨rfl, vis, hp, hK', _⟩ | ⟨_, hf⟩)
   ·exact ⟨rfl, vis, hp, hK'.fresh⟩
   ·exact hf.elim

theorem collectAll2 {r1 r B gt gl : Nat} {ks1 ks : List ByteArray} {val1 val : ByteArray → Value} {w wx : World} {vis1 : List ByteArray} (hB : B ≤ gt) (hK : Keys w B gt wx.heap.size vis1 wx) (hm : MapIs wx r ks val) (hm1 : MapIs wx r1 ks1 val1) (hr : r < B) (hr1 : r1 < B) (hgl : gl < B)
  (hl : Bk wx gl 357 #[.iface 453 (.map (some r1))])
  (hval : ∀ k ∈ ks, ∃ F W t, AnyAt F W t (val k)) (hn : (vis1.length + ks.length + 1) * 16 ≤ R47) (pa : Addr)
  (hcf : ∀ (args : Array Value) (W : World), (callFunc 358 args).run Tryz.prog W = .ok (.enter 358 args) W) :
  Calls Tryz.prog 346 #[.map (some r), .iface 303 (.pointer (some pa)), .func (.func 358) #[] #[.pointer (some ⟨gl, 0, none⟩), .pointer (some ⟨gt, 0, none⟩)]] wx
   fun e w' => e = .returned (.bool true) ∧ ∃ vis : List ByteArray, vis.Perm ks ∧ Keys w B gt w'.heap.size (vis1 ++ vis.filter fun k => !hasK k ks1) w' := by
 by_cases h0 : ks = []
 ·subst h0
  refine (iterate_none hm pa _).mono ?_
  rintro e w' ⟨rfl, rfl⟩
  exact ⟨rfl, [], List.Perm.refl _, by simpa using hK⟩
 ·have hgt : gt < wx.heap.size := by
   obtain ⟨out, h1, _⟩ := hK
   exact h1.lt
  have hbx : ∀ (W : World) vis, Keys w B gt wx.heap.size vis W → ∀ b, b < B → W.heap[b]? = wx.heap[b]? := by
   intro W vis hk b hb
   obtain ⟨_, _, _, _, h4⟩ := hK
   obtain ⟨_, _, _, _, h4'⟩ := hk
   exact (h4'.block b hb).trans (h4.block b hb).symm
  refine (iterate_some hm h0 pa _ _ hcf (fun vis W => Keys w B gt wx.heap.size (vis1 ++ vis.filter fun k => !hasK k ks1) W ∧ (∀ k ∈ vis, k ∈ ks) ∧ vis.Nodup) (fun _ => False) ⟨by simpa using hK, by simp, by simp⟩ hval ?_ ?_ ?_).mono ?_
  ·intro vis W W' hJ _ hk
   exact ⟨hJ.1.butTwo hgt hB hk, hJ.2⟩
  ·intro vis W' hJ hk
   exact ⟨hJ.1.belowAll hk hB, hJ.2⟩
  ·intro vis k W hk hnk hJ hsz _ hmW
   have hle : vis.length + 1 ≤ ks.length := by
    have hnd : (k :: vis).Nodup := List.nodup_cons.2 ⟨hnk, hJ.2.2⟩
    have := hnd.length_le_of_subset (l₂ := ks) (by
     intro x hx
     rcases List.mem_cons.1 hx with rfl | hx
     ·exact hk
     ·exact hJ.2.1 x hx)
    simpa using this
   have hfl := List.length_filter_le (fun k => !hasK k ks1) vis
   refine (collect2_calls w B gt wx.heap.size gl r1 ks1 val1 (vis1 ++ vis.filter fun k => !hasK k ks1) k _ W (Nat.le_trans (Nat.mul_le_mul_right _ (by rw [List.length_append]; omega)) hn) hsz hgt hB ((hbx _ _ hJ.1 _ hgl).trans hl) (hm1.keep (hbx _ _ hJ.1 _ hr1)) hJ.1).mono ?_
   rintro e W' ⟨rfl, hK', hst⟩
   refine ⟨.inl ⟨rfl, ?_, ?_, ?_⟩, hst r (by have := hmW.lt; omega) (.inl hr), hst _ (by omega) (.inr (.inl rfl)), hst _ (by omega) (.inr (.inr rfl))⟩
   ·cases hh : hasK k ks1
    ·rw [hh] at hK'
     simp only [Bool.false_eq_true, if_false] at hK'
     rw [List.filter_append, List.filter_cons, hh]
     simpa using hK'
    ·rw [hh] at hK'
     simp only [if_true] at hK'
     rw [List.filter_append, List.filter_cons, hh]
     simpa using hK'
   ·intro x hx
    rcases List.mem_append.1 hx with hx | hx
    ·exact hJ.2.1 x hx
    ·rw [List.mem_singleton.1 hx]; exact hk
   ·refine List.nodup_append.2 ⟨hJ.2.2, by simp, ?_⟩
    intro a ha b hb
    rw [List.mem_singleton.1 hb]
    rintro rfl
    exact hnk ha
  ·rintro e w' (⟨rfl, vis, hp, hK', _⟩ | ⟨_, hf⟩)
   ·exact ⟨rfl, vis, hp, hK'.fresh⟩
   ·exact hf.elim

theorem both_perm {ks1 ks2 v1 v2 : List ByteArray} (h1 : SortK ks1) (h2 : SortK ks2) (p1 : v1.Perm ks1) (p2 : v2.Perm ks2) : (v1 ++ v2.filter fun k => !hasK k ks1).Perm (mergeK ks1 ks2) := by
 refine (List.perm_ext_iff_of_nodup ?_ (mergeK_sorted _ _ h1 h2).nodup).2 fun k => ?_
 ·refine List.nodup_append.2 ⟨p1.nodup_iff.2 h1.nodup, (p2.nodup_iff.2 h2.nodup).filter _, ?_⟩
  intro a ha b hb
  rintro rfl
  have := (List.mem_filter.1 hb).2
  rw [(hasK_iff a ks1).2 (p1.subset ha)] at this
  cases this
 ·rw [List.mem_append, List.mem_filter, mem_mergeK, p1.mem_iff, p2.mem_iff]
  constructor
  ·rintro (h | h)
   ·exact .inl h
   ·exact .inr h.1
  ·rintro (h | h)
   ·exact .inl h
   ·by_cases hk : k ∈ ks1
    ·exact .inl hk
    ·refine .inr ⟨h, ?_⟩
     have : hasK k ks1 = false := by rw [Bool.eq_false_iff]; exact fun h' => hk ((hasK_iff k ks1).1 h')
     rw [this]
     rfl

end Go.Proofs.YtbicoknghdgahaaGreat

namespace Go.Proofs.YtbicoknghdgahaaGreat
open Go.RowKit
attribute [local go_sem] run_store_float run_load_k meth_allocVu meth_Free

theorem meth_Length (n : Nat) (v : Value) (w : World) : (method (n + 1) 453 v "Length").run Tryz.prog w = .ok (347, v) w := by kernel_rfl
theorem meth_IterateUsing (n : Nat) (v : Value) (w : World) : (method (n + 1) 453 v "IterateUsing").run Tryz.prog w = .ok (346, v) w := by kernel_rfl
theorem meth_GetUsing (n : Nat) (v : Value) (w : World) : (method (n + 1) 453 v "GetUsing").run Tryz.prog w = .ok (343, v) w := by kernel_rfl
attribute [local go_sem] meth_Length meth_IterateUsing meth_GetUsing

structure ButS (S : Nat → Prop) (W W' : World) : Prop where
 os : W'.os = W.os
 tape : W'.tape = W.tape
 output : W'.output = W.output
 size : W.heap.size ≤ W'.heap.size
 block : ∀ b, b < W.heap.size → ¬ S b → W'.heap[b]? = W.heap[b]?
theorem ButS.below {S : Nat → Prop} {W W' : World} (h : Below W.heap.size W W') : ButS S W W' := ⟨h.os, h.tape, h.output, h.size, fun b hb _ => h.block b hb⟩
theorem ButS.trans {S S' : Nat → Prop} {a b c : World} (h : ButS S a b) (k : ButS S' b c) (hs : ∀ x, x < a.heap.size → S' x → S x) : ButS S a c :=
 ⟨k.os.trans h.os, k.tape.trans h.tape, k.output.trans h.output, Nat.le_trans h.size k.size, fun b hb hn => (k.block b (Nat.lt_of_lt_of_le hb h.size) (fun hx => hn (hs b hb hx))).trans (h.block b hb hn)⟩

def ItemV (W : World) (o : Option T) (v : Value) : Prop := match o with
 | none => v = .nilIface
 | some t => ValAt (Old W) W t v

structure MapAt (F : Nat → Prop) (w : World) (r : Nat) (l : List (ByteArray × T)) (val : ByteArray → Value) : Prop where
 is_ : MapIs w r (l.map Prod.fst) val
 sorted : Sorted l
 small : l.length * 88 ≤ R47
 blk : F r
 items : ∀ k t, (k, t) ∈ l → AnyAt F w t (val k)
theorem MapAt.keeps {F : Nat → Prop} {w w' : World} {r : Nat} {l : List (ByteArray × T)} {val : ByteArray → Value} (h : MapAt F w r l val) (k : Keeps F w w') : MapAt F w' r l val :=
 ⟨h.is_.keep (k _ h.blk), h.sorted, h.small, h.blk, fun x t hx => (h.items x t hx).keeps k⟩

theorem ItemV.form {W : World} {o : Option T} {v : Value} (h : ItemV W o v) : v = .nilIface ∨ ∃ p, v = .iface 302 (.pointer (some p)) := by
 cases o with
 | none => exact .inl h
 | some t =>
  obtain ⟨g, u, rfl, _⟩ := h
  exact .inr ⟨_, rfl⟩
theorem ItemV.below {W W' : World} {o : Option T} {v : Value} (h : ItemV W o v) (hb : Below W.heap.size W W') : ItemV W' o v := by
 cases o with
 | none => exact h
 | some t =>
  have h : ValAt (Old W) W t v := h
  exact (h.keeps (Keeps.below hb fun _ hx => hx)).mono fun _ hx => Nat.lt_of_lt_of_le hx hb.size
theorem mapGet_any {F : Nat → Prop} {w : World} {r : Nat} {l : List (ByteArray × T)} {val : ByteArray → Value} (h : MapAt F w r l val) (hF : ∀ b, F b → b < w.heap.size) (k : ByteArray) (pa : Addr) :
  Calls Tryz.prog 343 #[.map (some r), .iface 303 (.pointer (some pa)), .string k] w fun e w' => (∃ v b, e = .returned (.tuple #[v, .bool b]) ∧ ItemV w' (getT l k) v) ∧ Below w.heap.size w w' := by
 cases hg : getT l k with
 | none =>
  refine (mapGet_none h.is_ k (getT_none.1 hg) pa).mono ?_
  rintro e w' ⟨rfl, rfl⟩
  exact ⟨⟨_, _, rfl, rfl⟩, Below.refl _ _⟩
 | some t =>
  have hm := getT_mem hg
  have hi := h.items k t hm
  refine (mapGet_calls h.is_ k (List.mem_map.2 ⟨_, hm, rfl⟩) pa hi).mono ?_
  rintro e w' ⟨rfl, rfl⟩
  refine ⟨⟨_, _, rfl, w.heap.size, val k, rfl, by simp [Old], Bk.new _ _ _, ?_⟩, (Below.refl _ _).alloc (Nat.le_refl _) _⟩
  exact (hi.keeps (Keeps.alloc _ _ hF)).mono fun b hb => Nat.lt_of_lt_of_le (hF b hb) (by simp)

structure ZipStep (f : FuncId) (cap : Array Value) (l1 l2 : List (ByteArray × T)) (w : World) (S : Nat → Prop) (J : Nat → Nat → World → Prop) (Jf : World → Prop) : Prop where
 start : ∀ W, Below w.heap.size w W → J W.heap.size 0 W
 keep : ∀ B i W W', J B i W → Below W.heap.size W W' → J B i W'
 step : ∀ B i k W lv rv, (bothK l1 l2)[i]? = some k → J B i W → w.heap.size ≤ B → B ≤ W.heap.size → ItemV W (getT l1 k) lv → ItemV W (getT l2 k) rv →
  Calls Tryz.prog f (#[.string k, lv, rv] ++ cap) W fun e W' => ((e = .returned (.bool true) ∧ J B (i + 1) W') ∨ (e = .returned (.bool false) ∧ Jf W')) ∧ ButS (fun b => S b ∨ B ≤ b) W W'

def LastInv (n : Nat) (S : Nat → Prop) (J : Nat → Nat → World → Prop) (w0 : World) (s : Value) (W : World) : Prop :=
 ∃ k : Nat, s = .int .i64 (k : Int) ∧ k ≤ n ∧ J w0.heap.size k W ∧ ButS (fun b => S b ∨ w0.heap.size ≤ b) w0 W
def ZipPost (l1 l2 : List (ByteArray × T)) (w : World) (S : Nat → Prop) (J : Nat → Nat → World → Prop) (Jf : World → Prop) (e : Ending) (w' : World) : Prop :=
 ((e = .returned (.bool true) ∧ ∃ B, J B (bothK l1 l2).length w') ∨ (e = .returned (.bool false) ∧ Jf w')) ∧ ButS S w w'

set_option maxRecDepth 100000 in
set_option maxHeartbeats 1000000 in
theorem zip_none {r1 r2 : Nat} {val1 val2 : ByteArray → Value} {F : Nat → Prop} {w : World} {f : FuncId} {cap : Array Value} {S : Nat → Prop} {J : Nat → Nat → World → Prop} {Jf : World → Prop} (h1 : MapAt F w r1 [] val1) (h2 : MapAt F w r2 [] val2) (pa : Addr) (hs : ZipStep f cap [] [] w S J Jf) :
  Calls Tryz.prog 354 #[.iface 303 (.pointer (some pa)), .iface 453 (.map (some r1)), .iface 453 (.map (some r2)), .func (.func f) #[] cap] w (ZipPost [] [] w S J Jf) := by
 have Hs := hide hs
 have Hm1 := fun o => hide (h1.is_.keep (w' := w.alloc o) (Below.heap_alloc _ _ _ h1.is_.lt))
 have Hm2 := fun o => hide (h2.is_.keep (w' := w.alloc o) (Below.heap_alloc _ _ _ h2.is_.lt))
 clear hs h1 h2
 go_enter Tryz.func354, Tryz.ntmps354
 go_wp2_with fail
 refine (mapLength_calls (Hm1 _).out).mono ?_
 rintro e w1 ⟨rfl, rfl⟩
 go_wp2_with fail
 refine (mapLength_calls (Hm2 _).out).mono ?_
 rintro e w1 ⟨rfl, rfl⟩
 go_wp2
 go_ret
 have hb : Below w.heap.size w (w.alloc (.cells #[.iface 453 (.map (some r1))] 357)) := (Below.refl _ _).alloc (Nat.le_refl _) _
 refine ⟨.inl ⟨rfl, ?_⟩, ButS.below hb⟩
 have := Hs.out.start _ hb
 exact ⟨_, by simpa [bothK, mergeK_nil] using this⟩

structure Srt (w1 : World) (B gt gr n c : Nat) (L : List ByteArray) (W : World) : Prop where
 len : L.length = n
 cell : Bk W gt 24 #[.slice (some ⟨gr, 0, none⟩) n c]
 row : W.ownsRow B 9 1 (.slice (some ⟨gr, 0, none⟩) n c) n (L.map Value.string)
 below : Below B w1 W
 ne : gt ≠ gr
theorem Srt.at_ {w1 W : World} {B gt gr n c : Nat} {L : List ByteArray} (h : Srt w1 B gt gr n c L W) (j : Nat) (x : ByteArray) (hx : L[j]? = some x) : W.cell? ⟨gr, j, none⟩ = some (.string x) := by
 have hj := (List.getElem?_eq_some_iff.1 hx).1
 rw [h.row.cellAt j (by rw [← h.len]; omega), List.getElem?_map, hx]
 rfl
theorem Srt.of_keys {w1 W : World} {B gt g : Nat} {L : List ByteArray} (h : Keys w1 B gt g L W) (n : Nat) (hn : L.length = n) (hL : 0 < n) : ∃ gr c, Srt w1 B gt gr n c L W := by
 subst hn
 obtain ⟨out, h1, h2, h3, h4⟩ := h
 obtain ⟨gr, c, rfl, _⟩ := h2.form hL
 refine ⟨gr, c, rfl, h1, h2, h4, fun e => ?_⟩
 have := own_ne h2 h1 (by decide)
 exact this (by rw [e]; rfl)
theorem Srt.set_ {w1 W : World} {B gt gr n c : Nat} {L : List ByteArray} (h : Srt w1 B gt gr n c L W) (j : Nat) (x : ByteArray) : Srt w1 B gt gr n c (L.set j x) (W.setCell ⟨gr, j, none⟩ (.string x)) := by
 obtain ⟨h0, h1, h2, h3, h4⟩ := h
 have hB := (h2.lt gr rfl).1
 refine ⟨by rw [List.length_set]; exact h0, h1.far h4 _, ?_, h3.setCell hB _, h4⟩
 have := h2.stored j (.string x)
 rw [List.map_set]
 exact this.1
theorem Srt.drewN {w1 W : World} {B gt gr n c : Nat} {L : List ByteArray} (h : Srt w1 B gt gr n c L W) (m : Nat) : Srt w1 B gt gr n c L (W.drewN m) := ⟨h.len, h.cell, h.row, ⟨h.below.os, h.below.tape, h.below.output, h.below.size, h.below.block⟩, h.ne⟩

def SortOut (w1 : World) (B gt gr n c : Nat) (U : List ByteArray) (s13 : Value) (wr : World) : Prop :=
 ∃ (L : List ByteArray) (i : Nat), s13 = .int .i64 (i : Int) ∧ 1 ≤ i ∧ i ≤ n ∧ L.Perm U ∧ SortK (L.take i) ∧ Srt w1 B gt gr n c L wr
def SortIn (w1 : World) (B gt gr n c : Nat) (U : List ByteArray) (i : Nat) (s14 : Value) (wr : World) : Prop :=
 ∃ (L : List ByteArray) (j : Nat), s14 = .int .i64 (j : Int) ∧ L.Perm U ∧ InsInv L i j ∧ Srt w1 B gt gr n c L wr
theorem sortK_one (L : List ByteArray) : SortK (L.take 1) := by
 cases L with
 | nil => exact List.Pairwise.nil
 | cons a l => exact List.pairwise_singleton _ _

set_option maxRecDepth 100000 in
set_option maxHeartbeats 4000000 in
theorem zip_some {l1 l2 : List (ByteArray × T)} (hne : l1 ≠ [] ∨ l2 ≠ []) {r1 r2 : Nat} {val1 val2 : ByteArray → Value} {F : Nat → Prop} {w : World} {f : FuncId} {cap : Array Value} {S : Nat → Prop} {J : Nat → Nat → World → Prop} {Jf : World → Prop}
  (hF : ∀ b, F b → b < w.heap.size ∧ ¬ S b) (hS : ∀ b, S b → b < w.heap.size) (hcf : ∀ (args : Array Value) (W : World), (callFunc f args).run Tryz.prog W = .ok (.enter f args) W)
  (h1 : MapAt F w r1 l1 val1) (h2 : MapAt F w r2 l2 val2) (pa : Addr) (hs : ZipStep f cap l1 l2 w S J Jf) :
  Calls Tryz.prog 354 #[.iface 303 (.pointer (some pa)), .iface 453 (.map (some r1)), .iface 453 (.map (some r2)), .func (.func f) #[] cap] w (ZipPost l1 l2 w S J Jf) := by
 obtain ⟨i0, hi0, hz0, hz1, hz2⟩ := info_parts str_info'
 have Hs := hide hs
 have H1 := hide h1
 have H2 := hide h2
 have Hm1 := fun o => hide (h1.is_.keep (w' := w.alloc o) (Below.heap_alloc _ _ _ h1.is_.lt))
 have Hm2 := fun o => hide (h2.is_.keep (w' := w.alloc o) (Below.heap_alloc _ _ _ h2.is_.lt))
 have hn1 : l1.length * 88 ≤ 140737488351232 := h1.small
 have hn2 : l2.length * 88 ≤ 140737488351232 := h2.small
 have Hpos : Hid (0 < l1.length ∨ 0 < l2.length) := hide (by
  rcases hne with h | h
  ·exact .inl (List.length_pos_iff.2 h)
  ·exact .inr (List.length_pos_iff.2 h))
 have HF := hide hF
 have HS := hide hS
 clear hs h1 h2 hne hF hS
 go_enter Tryz.func354, Tryz.ntmps354
 go_wp2_with fail
 refine (mapLength_calls (Hm1 _).out).mono ?_
 rintro e w1 ⟨rfl, rfl⟩
 go_wp2_with fail
 refine (mapLength_calls (Hm2 _).out).mono ?_
 rintro e w1 ⟨rfl, rfl⟩
 go_upto_if 31 with fail
 go_cut [11] (fun s wx => ∃ N : Nat, s = .int .i64 (N : Int) ∧ N * 88 ≤ 140737488351232 ∧ wx = w.alloc (.cells #[.iface 453 (.map (some r1))] 357))
 case first =>
  go_wp2_with fail
  all_goals (go_meet; first | exact ⟨l1.length, rfl, hn1, rfl⟩ | exact ⟨l2.length, rfl, hn2, rfl⟩)
 case rest =>
  obtain ⟨N, rfl, hN, rfl⟩ := hcut
  go_upto_region 10 with fail
  go_cut [9, 38] (fun s9 s wx => s9 = .int .i64 (l1.length : Int) ∧ s = .bool false ∧ wx = w.alloc (.cells #[.iface 453 (.map (some r1))] 357))
  case first =>
   by_cases hz : l1.length = 0
   ·have hz2 : ¬ (l2.length : Int) = 0 := by have := Hpos.out; omega
    have hz1 : (l1.length : Int) = 0 := by omega
    rw [hz1]
    go_wp2_with fail
    go_meet
    exact ⟨congrArg (Value.int .i64) hz1.symm, congrArg Value.bool (by simpa using hz2), rfl⟩
   ·have hz2 : ¬ (l1.length : Int) = 0 := by omega
    go_wp2_with fail
    go_meet
    exact ⟨rfl, rfl, rfl⟩
  case rest =>
   obtain ⟨rfl, rfl, rfl⟩ := hcut
   go_upto_region 12 with fail
   have hlt1 := (H1.out.is_).lt
   go_cut [12] (fun s wx => ∃ gt, s = .pointer (some ⟨gt, 0, none⟩) ∧ w.heap.size + 1 ≤ gt ∧ Keys (w.alloc (.cells #[.iface 453 (.map (some r1))] 357)) (w.heap.size + 1) gt wx.heap.size [] wx)
   case first =>
    go_wp2_with (at_make; refine wpList_make_own _ rfl _ _ 24 rfl (w.heap.size + 1) 9 i0 _ 1 Tryz.underlying24 hi0 hz0 hz1 _ _ _ N rfl rfl rfl ?b2 ?b3 ?b4 ?_)
    case b2 => rw [hz2]; omega
    case b3 => unfold maxLen; omega
    case b4 => simp
    intro w0 hown0 hgrow0
    go_wp2_with fail
    go_meet
    have hs0 := hgrow0.size
    simp only [World.size_alloc] at hs0
    refine ⟨w0.heap.size, rfl, hs0, .slice (some ⟨w.heap.size + 1, 0, none⟩) 0 N, Bk.new w0 _ _, hown0.alloc _, ?_, ?_⟩
    ·intro b hb
     have := Option.some.inj hb
     simp at this ⊢
     omega
    ·exact ((Below.refl _ _).grown hgrow0 (by simp) (fun k h => by cases h)).alloc (by omega) _
   case rest =>
    obtain ⟨gt, rfl, hgt, hK⟩ := hcut
    have HK := hide hK
    have hm1 : MapIs wc r1 (l1.map Prod.fst) val1 := by
     obtain ⟨_, _, _, _, hb⟩ := hK
     exact H1.out.is_.keep ((hb.block _ (by have := H1.out.is_.lt; omega)).trans (Below.heap_alloc _ _ _ H1.out.is_.lt))
    have hc5 : Bk wc w.heap.size 357 #[.iface 453 (.map (some r1))] := by
     obtain ⟨_, _, _, _, hb⟩ := hK
     exact (hb.block _ (by omega)).trans (Bk.new w _ _)
    have q5 := hc5.cell 0
    simp at q5
    have Hm := hide (And.intro hm1 hc5)
    clear hK hm1 hc5
    go_wp2_with fail
    refine (collectAll1 hgt HK.out Hm.out.1 (by omega) (fun k hk => ?_) (by rw [List.length_map]; unfold R47; omega) pa (fun args W => by kernel_rfl)).mono ?_
    ·obtain ⟨p, hp, rfl⟩ := List.mem_map.1 hk
     exact ⟨_, _, _, H1.out.items p.1 p.2 hp⟩
    rintro e w2 ⟨rfl, v1, p1, hK1⟩
    have HK1 := hide hK1
    have Hp1 := hide p1
    have hm2 : MapIs w2 r2 (l2.map Prod.fst) val2 ∧ MapIs w2 r1 (l1.map Prod.fst) val1 ∧ Bk w2 w.heap.size 357 #[.iface 453 (.map (some r1))] := by
     obtain ⟨_, _, _, _, hb⟩ := hK1
     exact ⟨H2.out.is_.keep ((hb.block _ (by have := H2.out.is_.lt; omega)).trans (Below.heap_alloc _ _ _ H2.out.is_.lt)), H1.out.is_.keep ((hb.block _ (by have := H1.out.is_.lt; omega)).trans (Below.heap_alloc _ _ _ H1.out.is_.lt)), (hb.block _ (by omega)).trans (Bk.new w _ _)⟩
    have Hm2' := hide hm2
    have hv1 : v1.length = l1.length := by rw [p1.length_eq, List.length_map]
    clear hK1 p1 hm2 HK Hm q5
    go_wp2_with fail
    refine (collectAll2 (gl := w.heap.size) (r1 := r1) (ks1 := l1.map Prod.fst) (val1 := val1) hgt HK1.out Hm2'.out.1 Hm2'.out.2.1 (by have := H2.out.is_.lt; omega) (by have := H1.out.is_.lt; omega) (by omega) Hm2'.out.2.2 (fun k hk => ?_) (by rw [List.length_map]; unfold R47; omega) pa (fun args W => by kernel_rfl)).mono ?_
    ·obtain ⟨p, hp, rfl⟩ := List.mem_map.1 hk
     exact ⟨_, _, _, H2.out.items p.1 p.2 hp⟩
    rintro e w3 ⟨rfl, v2, p2, hK2⟩
    have hperm := both_perm (sortK_of H1.out.sorted) (sortK_of H2.out.sorted) Hp1.out p2
    generalize (v1 ++ v2.filter fun k => !hasK k (l1.map Prod.fst)) = L0 at hK2 hperm
    have hU : 0 < (bothK l1 l2).length := by
     have hmem : ∃ k, k ∈ bothK l1 l2 := by
      rcases Hpos.out with h | h
      ·exact ⟨_, (mem_mergeK _ _ _).2 (.inl (List.mem_map.2 ⟨_, List.getElem_mem h, rfl⟩))⟩
      ·exact ⟨_, (mem_mergeK _ _ _).2 (.inr (List.mem_map.2 ⟨_, List.getElem_mem h, rfl⟩))⟩
     obtain ⟨k, hk⟩ := hmem
     exact List.length_pos_iff.2 (List.ne_nil_of_mem hk)
    obtain ⟨n, hn⟩ : ∃ n, (bothK l1 l2).length = n := ⟨_, rfl⟩
    rw [hn] at hU
    have hnb : n ≤ 8796093022208 := by
     have h3 := (mergeK_sorted _ _ (sortK_of H1.out.sorted) (sortK_of H2.out.sorted)).nodup.length_le_of_subset (l₂ := l1.map Prod.fst ++ l2.map Prod.fst) (fun k hk => List.mem_append.2 ((mem_mergeK _ _ _).1 hk))
     rw [List.length_append, List.length_map, List.length_map] at h3
     unfold bothK at hn
     omega
    have hUn : (bothK l1 l2).Nodup := (mergeK_sorted _ _ (sortK_of H1.out.sorted) (sortK_of H2.out.sorted)).nodup
    obtain ⟨gr, c, hsrt⟩ := Srt.of_keys hK2 n (hperm.length_eq.trans hn) hU
    have Hstart : Hid (SortOut (w.alloc (.cells #[.iface 453 (.map (some r1))] 357)) (w.heap.size + 1) gt gr n c (bothK l1 l2) (.int .i64 1) w3) := hide ⟨L0, 1, rfl, Nat.le_refl _, hU, hperm, sortK_one L0, hsrt⟩
    have Hn := hide hn
    have HUn := hide hUn
    clear hK2 hperm hsrt HK1 Hm2' p2 Hp1 hv1 Hm1 Hm2 hn hUn
    go_wp2_with fail
    go_loopw [13] (fun s wr => SortOut (w.alloc (.cells #[.iface 453 (.map (some r1))] 357)) (w.heap.size + 1) gt gr n c (bothK l1 l2) s wr) (fun s _ => n - (intOf s).toNat)
    case atStart => exact Hstart.out
    case round =>
     obtain ⟨L, i, rfl, hi1, hi2, hp, hs, hst⟩ := hrel
     have q0 := hst.cell.cell 0
     simp at q0
     have Hp := hide hp
     have Hs' := hide hs
     have Hst := hide hst
     clear hp hs hst
     by_cases hlt : i < n
     ·go_wp2_with fail
      have Hin : Hid (SortIn (w.alloc (.cells #[.iface 453 (.map (some r1))] 357)) (w.heap.size + 1) gt gr n c (bothK l1 l2) i (.int .i64 (i : Int)) wr) := hide ⟨L, i, rfl, Hp.out, ins_start Hs'.out (by rw [Hst.out.len]; exact hlt), Hst.out⟩
      clear q0 Hp Hs' Hst
      obtain ⟨wo, rfl⟩ : ∃ wo : World, wo = wr := ⟨_, rfl⟩
      go_loopw [14] (fun s wr => SortIn (w.alloc (.cells #[.iface 453 (.map (some r1))] 357)) (w.heap.size + 1) gt gr n c (bothK l1 l2) i s wr) (fun s _ => (intOf s).toNat)
      case atStart => exact Hin.out
      case round =>
       obtain ⟨L, j, rfl, hp, hin, hst⟩ := hrel
       have q0 := hst.cell.cell 0
       simp at q0
       have hji := hin.lt
       have hLn := hst.len
       have hnd := hide (hp.nodup_iff.2 HUn.out)
       cases j with
       | zero =>
        have Hp := hide hp
        have Hin2 := hide hin
        have Hst := hide hst
        clear hp hin hst hLn
        rw [show ((0 : Nat) : Int) = 0 from rfl]
        go_wp2_with fail
        go_quiet (fail)
        go_wp2_with fail
        exact ⟨⟨L, i + 1, by go_num, by omega, by omega, Hp.out, Hin2.out.done_ hnd.out (.inl rfl), Hst.out.drewN _⟩, by simp [intOf]; omega⟩
       | succ m =>
        obtain ⟨x, hx⟩ : ∃ x, L[m + 1]? = some x := ⟨_, List.getElem?_eq_getElem (by omega)⟩
        obtain ⟨y, hy⟩ : ∃ y, L[m]? = some y := ⟨_, List.getElem?_eq_getElem (by omega)⟩
        have qx := hst.at_ _ _ hx
        have qy := hst.at_ _ _ hy
        have Hp := hide hp
        have Hin2 := hide hin
        have Hst := hide hst
        have Hx := hide hx
        have Hy := hide hy
        have b1 : (m : Int) + 1 < (n : Int) := by omega
        have b2 : (m : Int) < (n : Int) := by omega
        have b3 : (0 : Int) ≤ (m : Int) := by omega
        have b4 : (0 : Int) ≤ (m : Int) + 1 := by omega
        have b5 : (0 : Int) < (m : Int) + 1 := by omega
        have e1 : IntKind.i64.wrap ((m : Int) + 1 - 1) = (m : Int) := by rw [IntWalk.i64_in _ (by omega)]; omega
        have e2 : ((m : Int) + 1).toNat = m + 1 := by omega
        clear hp hin hst hLn hx hy
        rw [show ((m + 1 : Nat) : Int) = (m : Int) + 1 from rfl]
        cases hlt2 : Op.bytesLess x.toList y.toList
        ·go_wp2_with fail
         go_quiet (fail)
         go_wp2_with fail
         exact ⟨⟨L, i + 1, by go_num, by omega, by omega, Hp.out, Hin2.out.done_ hnd.out (.inr ⟨x, y, Hx.out, Hy.out, hlt2⟩), Hst.out.drewN _⟩, by simp [intOf]; omega⟩
        ·go_wp2_with fail
         go_quiet (fail)
         go_wp2_with fail
         generalize hWW : wr.drewN _ = W2
         have hst2 : Srt (w.alloc (.cells #[.iface 453 (.map (some r1))] 357)) (w.heap.size + 1) gt gr n c L W2 := by rw [← hWW]; exact Hst.out.drewN _
         have q0 := hst2.cell.cell 0
         simp at q0
         have qx := hst2.at_ _ _ Hx.out
         have qy := hst2.at_ _ _ Hy.out
         have qf : ∀ j, W2.frozen? ⟨gr, j, none⟩ = false := fun j => hst2.row.frozenAt j
         have Hst2 := hide hst2
         clear hst2 hWW Hst
         go_region
         all_goals go_wp2_with fail
         obtain ⟨hin', hperm'⟩ := Hin2.out.step (by omega) x y Hx.out (by simpa using Hy.out) hlt2
         exact ⟨⟨swapL L (m + 1) y x, m, rfl, hperm'.trans Hp.out, hin', ((Hst2.out.set_ (m + 1) y).set_ m x).drewN 1⟩, by simp [intOf]⟩
     ·have hin : i = n := by omega
      subst hin
      have hLU : L = bothK l1 l2 := by
       have h1 := Hs'.out
       rw [List.take_of_length_le (by rw [Hst.out.len]; omega)] at h1
       exact sortK_ext h1 (mergeK_sorted _ _ (sortK_of H1.out.sorted) (sortK_of H2.out.sorted)) fun k => Hp.out.mem_iff
      subst hLU
      clear Hp Hs' hi1 hi2 hlt Hstart
      obtain ⟨w0, rfl⟩ : ∃ w0 : World, w0 = wr := ⟨_, rfl⟩
      have hB0 : Below w.heap.size w w0 := ((Below.refl w.heap.size w).alloc (Nat.le_refl _) _).trans (Hst.out.below.mono (Nat.le_succ _))
      have h1 : MapAt F w0 r1 l1 val1 := H1.out.keeps (Keeps.below hB0 fun b hb => (HF.out b hb).1)
      have h2 : MapAt F w0 r2 l2 val2 := H2.out.keeps (Keeps.below hB0 fun b hb => (HF.out b hb).1)
      have hc5 : Bk w0 w.heap.size 357 #[.iface 453 (.map (some r1))] := (Hst.out.below.block _ (by omega)).trans (Bk.new w _ _)
      have hgrB := Hst.out.row.lt gr rfl
      have Hh := hide (And.intro h1 (And.intro h2 (And.intro hc5 hB0)))
      clear h1 h2 hc5 hB0 H1 H2
      go_wp2_with fail
      clear q0
      go_loopw [94] (fun s W => LastInv i S J w0 s W) (fun s _ => i - (intOf s).toNat)
      case atStart => exact ⟨0, rfl, Nat.zero_le _, Hs.out.start _ Hh.out.2.2.2, ⟨rfl, rfl, rfl, Nat.le_refl _, fun _ _ _ => rfl⟩⟩
      case round =>
       obtain ⟨k, rfl, hk, hJ, hbs⟩ := hrel
       have HJ := hide hJ
       have Hbs := hide hbs
       clear hJ hbs
       by_cases hlt : k < i
       ·obtain ⟨key, hkey⟩ : ∃ key, (bothK l1 l2)[k]? = some key := ⟨_, List.getElem?_eq_getElem (by rw [Hn.out]; exact hlt)⟩
        have hnS : ∀ b, w.heap.size ≤ b → b < w0.heap.size → ¬ (S b ∨ w0.heap.size ≤ b) := fun b h1 h2 h => h.elim (fun h => by have := HS.out b h; omega) (fun h => by omega)
        have q5 : wr.cell? ⟨w.heap.size, 0, none⟩ = some (.iface 453 (.map (some r1))) := by
         have hb : Bk wr w.heap.size 357 #[.iface 453 (.map (some r1))] := (Hbs.out.block _ Hh.out.2.2.1.lt (hnS _ (Nat.le_refl _) Hh.out.2.2.1.lt)).trans Hh.out.2.2.1
         exact hb.cell 0
        have qk : wr.cell? ⟨gr, k, none⟩ = some (.string key) := (World.cell?_of_block (a := ⟨gr, k, none⟩) (Hbs.out.block gr hgrB.2 (hnS _ (by omega) hgrB.2))).trans (Hst.out.at_ k key hkey)
        have Hkey := hide hkey
        have hki : (k : Int) < (i : Int) := by omega
        have hkF : Keeps F w0 wr := fun b hb => Hbs.out.block b (Nat.lt_of_lt_of_le (HF.out b hb).1 Hh.out.2.2.2.size) (fun h => h.elim (HF.out b hb).2 (fun h => by have := (HF.out b hb).1; have := Hh.out.2.2.2.size; omega))
        have hm1 : MapAt F wr r1 l1 val1 := Hh.out.1.keeps hkF
        have hm2 : MapAt F wr r2 l2 val2 := Hh.out.2.1.keeps hkF
        have hws : ∀ b, F b → b < wr.heap.size := fun b hb => Nat.lt_of_lt_of_le (HF.out b hb).1 (Nat.le_trans Hh.out.2.2.2.size Hbs.out.size)
        have Hm := hide (And.intro hm1 (And.intro hm2 hws))
        clear hkey hkF hm1 hm2 hws hnS
        go_wp2_with fail
        refine (mapGet_any Hm.out.1 Hm.out.2.2 key pa).mono ?_
        rintro e w4 ⟨⟨v1, b1, rfl, hv1⟩, hb4⟩
        have Hv1 := hide (And.intro hv1 hb4)
        clear hv1 hb4
        go_wp2_with fail
        refine (mapGet_any (Hm.out.2.1.keeps (Keeps.below Hv1.out.2 Hm.out.2.2)) (fun b hb => Nat.lt_of_lt_of_le (Hm.out.2.2 b hb) Hv1.out.2.size) key pa).mono ?_
        rintro e w5 ⟨⟨v2, b2, rfl, hv2⟩, hb5⟩
        have hb45 : Below wr.heap.size wr w5 := Hv1.out.2.trans (hb5.mono Hv1.out.2.size)
        have Hv2 := hide (And.intro hv2 (And.intro (Hv1.out.1.below hb5) hb45))
        clear hv2 hb5 hb45
        go_wp2_with fail
        have hsz : w0.heap.size ≤ w5.heap.size := Nat.le_trans Hbs.out.size Hv2.out.2.2.size
        refine (Hs.out.step w0.heap.size k key w5 v1 v2 Hkey.out (Hs.out.keep _ _ _ _ HJ.out Hv2.out.2.2) Hh.out.2.2.2.size hsz Hv2.out.2.1 Hv2.out.1).mono ?_
        rintro e w6 ⟨he, hb6⟩
        have hbs6 : ButS (fun b => S b ∨ w0.heap.size ≤ b) w0 w6 := Hbs.out.trans ((ButS.below (S := fun b => S b ∨ w0.heap.size ≤ b) Hv2.out.2.2).trans hb6 (fun _ _ h => h)) (fun _ _ h => h)
        have Hb6 := hide hbs6
        clear hbs6 hb6 hsz
        rcases Hv2.out.1.form with rfl | ⟨p2, rfl⟩ <;> rcases Hv2.out.2.1.form with rfl | ⟨p1, rfl⟩ <;> rcases he with ⟨rfl, hj6⟩ | ⟨rfl, hj6⟩
        all_goals
         have Hj6 := hide hj6
         clear hj6
         go_wp2_with (refine (free_calls pa _ _).mono ?_; rintro e w7 ⟨rfl, rfl⟩)
        all_goals first
         | exact ⟨⟨k + 1, by go_num, by omega, Hj6.out, Hb6.out⟩, by simp [intOf]; omega⟩
         | (go_ret; exact ⟨.inr ⟨rfl, Hj6.out⟩, (ButS.below (S := S) Hh.out.2.2.2).trans Hb6.out fun x hx h => h.elim id fun h => by have := Hh.out.2.2.2.size; omega⟩)
       ·have hke : k = i := by omega
        subst hke
        go_wp2_with fail
        go_ret
        refine ⟨.inl ⟨rfl, w0.heap.size, by rw [Hn.out]; exact HJ.out⟩, (ButS.below (S := S) Hh.out.2.2.2).trans Hbs.out fun x hx h => h.elim id fun h => by have := Hh.out.2.2.2.size; omega⟩

theorem zip_calls {l1 l2 : List (ByteArray × T)} {r1 r2 : Nat} {val1 val2 : ByteArray → Value} {F : Nat → Prop} {w : World} {f : FuncId} {cap : Array Value} {S : Nat → Prop} {J : Nat → Nat → World → Prop} {Jf : World → Prop}
  (hF : ∀ b, F b → b < w.heap.size ∧ ¬ S b) (hS : ∀ b, S b → b < w.heap.size) (hcf : ∀ (args : Array Value) (W : World), (callFunc f args).run Tryz.prog W = .ok (.enter f args) W)
  (h1 : MapAt F w r1 l1 val1) (h2 : MapAt F w r2 l2 val2) (pa : Addr) (hs : ZipStep f cap l1 l2 w S J Jf) :
  Calls Tryz.prog 354 #[.iface 303 (.pointer (some pa)), .iface 453 (.map (some r1)), .iface 453 (.map (some r2)), .func (.func f) #[] cap] w (ZipPost l1 l2 w S J Jf) := by
 by_cases hne : l1 ≠ [] ∨ l2 ≠ []
 ·exact zip_some hne hF hS hcf h1 h2 pa hs
 ·have e1 : l1 = [] := Classical.byContradiction fun h => hne (.inl h)
  have e2 : l2 = [] := Classical.byContradiction fun h => hne (.inr h)
  subst e1
  subst e2
  exact zip_none h1 h2 pa hs

end Go.Proofs.YtbicoknghdgahaaGreat

namespace Go.Proofs.YtbicoknghdgahaaGreat
open Go.RowKit
attribute [local go_sem] run_store_float run_load_k meth_allocVu meth_Free

section
variable {l1 l2 : List (ByteArray × T)} {r1 r2 : Nat} {val1 val2 : ByteArray → Value} {F : Nat → Prop} {w : World} {f : FuncId} {cap : Array Value} {S : Nat → Prop} {J : Nat → Nat → World → Prop} {Jf : World → Prop}

theorem ZipStep.alloc (h : ZipStep f cap l1 l2 w S J Jf) {W : World} (hb : Below w.heap.size w W) : ZipStep f cap l1 l2 W S J Jf :=
 ⟨fun W' hW => h.start W' (hb.trans (hW.mono hb.size)), h.keep, fun B i k W' lv rv hk hj hB hBW h1 h2 => h.step B i k W' lv rv hk hj (Nat.le_trans hb.size hB) hBW h1 h2⟩
theorem MapAt.mono {G : Nat → Prop} (h : MapAt F w r1 l1 val1) (k : ∀ b, F b → G b) : MapAt G w r1 l1 val1 := ⟨h.is_, h.sorted, h.small, k _ h.blk, fun x t hx => (h.items x t hx).mono k⟩
theorem MapAt.below (h : MapAt F w r1 l1 val1) (hF : ∀ b, F b → b < w.heap.size) {W : World} (hb : Below w.heap.size w W) : MapAt F W r1 l1 val1 := h.keeps (Keeps.below hb hF)
theorem ZipPost.of_below {e : Ending} {w' W : World} (hb : Below w.heap.size w W) (hS : ∀ b, S b → b < w.heap.size) (h : ZipPost l1 l2 W S J Jf e w') : ZipPost l1 l2 w S J Jf e w' :=
 ⟨h.1, (ButS.below (S := S) hb).trans h.2 fun _ _ h => h⟩

theorem defaultZip_calls (hF : ∀ b, F b → b < w.heap.size ∧ ¬ S b) (hS : ∀ b, S b → b < w.heap.size) (hcf : ∀ (args : Array Value) (W : World), (callFunc f args).run Tryz.prog W = .ok (.enter f args) W)
  (h1 : MapAt F w r1 l1 val1) (h2 : MapAt F w r2 l2 val2) (pa : Addr) (hs : ZipStep f cap l1 l2 w S J Jf) :
  Calls Tryz.prog 352 #[.iface 303 (.pointer (some pa)), .iface 453 (.map (some r1)), .iface 453 (.map (some r2)), .int .i64 1, .func (.func f) #[] cap] w (ZipPost l1 l2 w S J Jf) := by
 have Hz := hide (zip_calls hF hS hcf h1 h2 pa hs)
 clear hs h1 h2
 go_enter Tryz.func352, Tryz.ntmps352
 go_wp2_with fail
 refine Hz.out.mono ?_
 rintro e w' ⟨(⟨rfl, h⟩ | ⟨rfl, h⟩), hb⟩
 ·have H := hide (show ZipPost l1 l2 w S J Jf (.returned (.bool true)) w' from ⟨.inl ⟨rfl, h⟩, hb⟩)
  clear h hb
  go_wp2
  go_ret
  exact H.out
 ·have H := hide (show ZipPost l1 l2 w S J Jf (.returned (.bool false)) w' from ⟨.inr ⟨rfl, h⟩, hb⟩)
  clear h hb
  go_wp2
  go_ret
  exact H.out

theorem zipUsing_calls (hF : ∀ b, F b → b < w.heap.size ∧ ¬ S b) (hS : ∀ b, S b → b < w.heap.size) (hcf : ∀ (args : Array Value) (W : World), (callFunc f args).run Tryz.prog W = .ok (.enter f args) W)
  (h1 : MapAt F w r1 l1 val1) (h2 : MapAt F w r2 l2 val2) (pa : Addr) (hs : ZipStep f cap l1 l2 w S J Jf) :
  Calls Tryz.prog 350 #[.map (some r1), .iface 303 (.pointer (some pa)), .iface 453 (.map (some r2)), .int .i64 1, .func (.func f) #[] cap] w (ZipPost l1 l2 w S J Jf) := by
 have Hz := hide (defaultZip_calls hF hS hcf h1 h2 pa hs)
 clear hs h1 h2
 go_enter Tryz.func350, Tryz.ntmps350
 go_wp2_with fail
 refine Hz.out.mono ?_
 rintro e w' ⟨(⟨rfl, h⟩ | ⟨rfl, h⟩), hb⟩
 ·have H := hide (show ZipPost l1 l2 w S J Jf (.returned (.bool true)) w' from ⟨.inl ⟨rfl, h⟩, hb⟩)
  clear h hb
  go_wp2
  go_ret
  exact H.out
 ·have H := hide (show ZipPost l1 l2 w S J Jf (.returned (.bool false)) w' from ⟨.inr ⟨rfl, h⟩, hb⟩)
  clear h hb
  go_wp2
  go_ret
  exact H.out

theorem meth_ZipUsing (n : Nat) (v : Value) (w : World) : (method (n + 1) 453 v "ZipUsing").run Tryz.prog w = .ok (350, v) w := by kernel_rfl
attribute [local go_sem] meth_ZipUsing

theorem mapZipUsing_calls (hF : ∀ b, F b → b < w.heap.size ∧ ¬ S b) (hS : ∀ b, S b → b < w.heap.size) (hcf : ∀ (args : Array Value) (W : World), (callFunc f args).run Tryz.prog W = .ok (.enter f args) W)
  (h1 : MapAt F w r1 l1 val1) (h2 : MapAt F w r2 l2 val2) (pa : Addr) (hs : ZipStep f cap l1 l2 w S J Jf) :
  Calls Tryz.prog 252 #[.iface 303 (.pointer (some pa)), .iface 453 (.map (some r1)), .iface 453 (.map (some r2)), .int .i64 1, .func (.func f) #[] cap] w (ZipPost l1 l2 w S J Jf) := by
 have Hz : ∀ W, Below w.heap.size w W → Calls Tryz.prog 350 #[.map (some r1), .iface 303 (.pointer (some pa)), .iface 453 (.map (some r2)), .int .i64 1, .func (.func f) #[] cap] W (ZipPost l1 l2 w S J Jf) := by
  intro W hb
  refine (zipUsing_calls (fun b hb' => ⟨Nat.lt_of_lt_of_le (hF b hb').1 hb.size, (hF b hb').2⟩) (fun b hb' => Nat.lt_of_lt_of_le (hS b hb') hb.size) hcf (h1.below (fun b hb' => (hF b hb').1) hb) (h2.below (fun b hb' => (hF b hb').1) hb) pa (hs.alloc hb)).mono ?_
  exact fun e w' h => h.of_below hb hS
 have Hz := hide Hz
 clear hs h1 h2 hF hS
 go_enter Tryz.func252, Tryz.ntmps252
 go_wp2_with fail
 refine (Hz.out _ ((Below.refl _ _).alloc (Nat.le_refl _) _)).mono ?_
 rintro e w' ⟨(⟨rfl, h⟩ | ⟨rfl, h⟩), hb⟩
 ·have H := hide (show ZipPost l1 l2 w S J Jf (.returned (.bool true)) w' from ⟨.inl ⟨rfl, h⟩, hb⟩)
  clear h hb
  go_wp2
  go_ret
  exact H.out
 ·have H := hide (show ZipPost l1 l2 w S J Jf (.returned (.bool false)) w' from ⟨.inr ⟨rfl, h⟩, hb⟩)
  clear h hb
  go_wp2
  go_ret
  exact H.out
end

end Go.Proofs.YtbicoknghdgahaaGreat
