/-
  impl.sortedKeys at any: the keys of a map, in increasing order, in a new row.
-/
import Derived.Test.YtajeghkjppkhcaaGreatZip
set_option linter.unusedVariables false
set_option linter.unusedSimpArgs false
namespace Go.Proofs.YtajeghkjppkhcaaGreat
open Go.RowKit

/-- a call that lists these strings in a new row -/
def GivesStrs (ks : List ByteArray) (w : World) (e : Ending) (w' : World) : Prop :=
  ∃ A c, e = .returned (.slice A ks.length c) ∧ ks.length ≤ c ∧ c ≤ maxLen ∧ Row (Fr w.heap.size w') w' 1 A ks.length (ks.map Value.string) ∧ Below w.heap.size w w'

/-- at the head of the outer loop: L has been listed, 'left' is to come -/
def SKInv (w : World) (r : Nat) (ks : List ByteArray) (val : ByteArray → Value) (s3 : Value) (W : World) : Prop :=
  ∃ L left, MapRange W w.heap.size r ks val left ∧ (L ++ left).Perm ks ∧ SortK L ∧ W.ownsRow (w.heap.size + 1) 9 1 s3 L.length (L.map Value.string) ∧ Below w.heap.size w W
/-- at the head of the inner loop -/
def SKIn (w : World) (r : Nat) (ks : List ByteArray) (val : ByteArray → Value) (left U : List ByteArray) (gr n c i : Nat) (s5 : Value) (W : World) : Prop :=
  ∃ L j, s5 = .int .i64 ((j : Nat) : Int) ∧ L.Perm U ∧ InsInv L i j ∧ L.length = n ∧ MapRange W w.heap.size r ks val left ∧ W.ownsRow (w.heap.size + 1) 9 1 (.slice (some ⟨gr, 0, none⟩) n c) n (L.map Value.string) ∧ Below w.heap.size w W

theorem skin_at {W : World} {B gr n c : Nat} {L : List ByteArray} (h : W.ownsRow B 9 1 (.slice (some ⟨gr, 0, none⟩) n c) n (L.map Value.string)) (hn : L.length = n) (j : Nat) (x : ByteArray) (hx : L[j]? = some x) : W.cell? ⟨gr, j, none⟩ = some (.string x) := by
  have hj := (List.getElem?_eq_some_iff.1 hx).1
  rw [h.cellAt j (by omega), List.getElem?_map, hx]
  rfl
theorem skin_set {w W : World} {r gr n c i m : Nat} {ks left U L : List ByteArray} {val : ByteArray → Value} {x y : ByteArray} (hr : r < w.heap.size) (hp : L.Perm U) (hin : InsInv L i (m + 1)) (hn : L.length = n) (hx : L[m + 1]? = some x) (hy : L[m]? = some y) (hlt : klt x y = true) (hmr : MapRange W w.heap.size r ks val left)
    (hrow : W.ownsRow (w.heap.size + 1) 9 1 (.slice (some ⟨gr, 0, none⟩) n c) n (L.map Value.string)) (hb : Below w.heap.size w W) :
    SKIn w r ks val left U gr n c i (.int .i64 (m : Int)) ((W.setCell ⟨gr, m + 1, none⟩ (.string y)).setCell ⟨gr, m, none⟩ (.string x)) := by
  obtain ⟨hin', hperm'⟩ := hin.step (by omega) x y hx (by simpa using hy) hlt
  have hgr := (hrow.lt gr rfl).1
  have h1 := (hrow.stored (m + 1) (.string y)).1
  have h2 := (h1.stored m (.string x)).1
  refine ⟨swapL L (m + 1) y x, m, rfl, hperm'.trans hp, hin', by simp [swapL, hn], ?_, ?_, (hb.setCell (by show w.heap.size ≤ gr; omega) _).setCell (by show w.heap.size ≤ gr; omega) _⟩
  · refine hmr.keep ?_ ?_
    · exact (Below.heap_setCell _ _ _ _ (by show r ≠ gr; omega)).trans (Below.heap_setCell _ _ _ _ (by show r ≠ gr; omega))
    · exact (Below.heap_setCell _ _ _ _ (by show w.heap.size ≠ gr; omega)).trans (Below.heap_setCell _ _ _ _ (by show w.heap.size ≠ gr; omega))
  · unfold swapL
    rw [List.map_set, List.map_set]
    simpa using h2

theorem SKIn.drewN {w W : World} {r gr n c i : Nat} {ks left U : List ByteArray} {val : ByteArray → Value} {s : Value} (h : SKIn w r ks val left U gr n c i s W) (q : Nat) : SKIn w r ks val left U gr n c i s (W.drewN q) := by
  obtain ⟨L, j, h1, h2, h3, h4, h5, h6, hb⟩ := h
  exact ⟨L, j, h1, h2, h3, h4, h5.keep rfl rfl, h6, ⟨hb.os, hb.tape, hb.output, hb.size, hb.block⟩⟩

/-- a key is appended -/
theorem skin_start {w wr w2 w3 : World} {r : Nat} {ks L left left2 : List ByteArray} {val : ByteArray → Value} {k : ByteArray} {s3 v' : Value} (hk : k ∈ left) (hr : r < w.heap.size) (hsk : SortK L)
    (hrow : wr.ownsRow (w.heap.size + 1) 9 1 s3 L.length (L.map Value.string)) (hb : Below w.heap.size w wr) (hg : wr.grownBy w2 (some w.heap.size)) (hs : w2.heap.size = wr.heap.size) (hmr2 : MapRange w2 w.heap.size r ks val left2)
    (hrow3 : w3.ownsRow (w.heap.size + 1) 9 1 v' (L.length + 1) (L.map Value.string ++ [.string k])) (hg3 : (w2.alloc (.cells #[.string k] 9)).grownBy w3 s3.ownBlock) (hB : w.heap.size < wr.heap.size) :
    ∃ gr c, v' = .slice (some ⟨gr, 0, none⟩) (L.length + 1) c ∧ SKIn w r ks val left2 (L ++ [k]) gr (L.length + 1) c L.length (.int .i64 (L.length : Int)) w3 := by
  obtain ⟨gr, c, rfl, _⟩ := hrow3.form (by omega)
  have hne : ∀ b, b ≤ w.heap.size → some b ≠ s3.ownBlock := fun b hb e => by have := (hrow.lt b e.symm).1; omega
  refine ⟨gr, c, rfl, L ++ [k], L.length, rfl, List.Perm.refl _, ins_start (by simpa using hsk) (by simp), by simp, ?_, by simpa using hrow3, ?_⟩
  · refine hmr2.keep ?_ ?_
    · exact (hg3.block r (by simp; omega) (hne _ (by omega))).trans (Below.heap_alloc _ _ _ (by omega))
    · exact (hg3.block _ (by simp; omega) (hne _ (Nat.le_refl _))).trans (Below.heap_alloc _ _ _ (by omega))
  · exact ((hb.grown hg hb.size (fun g e => by cases e; exact Nat.le_refl _)).alloc (by rw [hs]; exact hb.size) _).grown hg3 (by simp; omega) (fun g e => by have := (hrow.lt g e).1; omega)

/-- the inner loop is done -/
theorem skin_done {w W : World} {r gr c : Nat} {ks left left2 L M : List ByteArray} {val : ByteArray → Value} {k : ByteArray} (hp : M.Perm (L ++ [k])) (hs : SortK (M.take (L.length + 1))) (hlM : M.length = L.length + 1)
    (h : MapRange W w.heap.size r ks val left2 ∧ W.ownsRow (w.heap.size + 1) 9 1 (.slice (some ⟨gr, 0, none⟩) (L.length + 1) c) (L.length + 1) (M.map Value.string) ∧ Below w.heap.size w W)
    (hpm : (L ++ [k] ++ left2).Perm (L ++ left)) (hperm : (L ++ left).Perm ks) (q : Nat) : w.heap.size < (W.drewN q).heap.size ∧ SKInv w r ks val (.slice (some ⟨gr, 0, none⟩) (L.length + 1) c) (W.drewN q) := by
  obtain ⟨hmr, hrow, hb⟩ := h
  rw [List.take_of_length_le (by omega)] at hs
  refine ⟨hmr.lt, M, left2, hmr.keep rfl rfl, ((hp.append_right left2).trans hpm).trans hperm, hs, ?_, ⟨hb.os, hb.tape, hb.output, hb.size, hb.block⟩⟩
  rw [hlM]
  exact hrow

set_option maxRecDepth 100000 in
set_option maxHeartbeats 4000000 in
theorem sortedKeys_calls {r : Nat} {ks : List ByteArray} {val : ByteArray → Value} {w : World} (h : MapIs w r ks val) (hks : SortK ks) (hn : ks.length * 16 ≤ R47) :
    Calls Tryz.prog 162 #[.map (some r)] w (GivesStrs ks w) := by
  obtain ⟨i9, hi9, hz9, hs9, hb9⟩ := info_parts str_info'
  obtain ⟨hrg, hmr⟩ := h.range (P := Tryz.prog) Tryz.underlying255
  have Hmr := hide hmr
  have hrl := h.lt
  have Hks := hide hks
  have hnb : ks.length ≤ 8796093022208 := by unfold R47 at hn; omega
  clear hmr hks hn
  generalize hit : Obj.mapIter _ _ _ _ = io at Hmr hrg
  go_enter Tryz.func162, Tryz.ntmps162
  go_wp2
  go_loopw [3] (fun s wr => w.heap.size < wr.heap.size ∧ SKInv w r ks val s wr) (fun _ wr => itMes w.heap.size r ks val wr)
  case atStart => exact ⟨by simp, [], ks, Hmr.out, List.Perm.refl _, List.Pairwise.nil, World.ownsRow_nil _ _ _ _, (Below.refl _ _).alloc (Nat.le_refl _) _⟩
  case round =>
    obtain ⟨hsz, L, left, hmr, hperm, hsk, hrow, hb⟩ := hrel
    rcases hmr.next (P := Tryz.prog) 0 with ⟨rfl, hrun⟩ | ⟨k, w2, hk, hrun, hmr2, hgrow, hsize, hent⟩
    · have hLk : L = ks := sortK_ext hsk Hks.out fun k => by simpa using hperm.mem_iff
      subst hLk
      have Hfin := hide (And.intro hrow hb)
      obtain ⟨A, c, rfl, h1, h2⟩ := own_form hrow
      clear hrow hb hsk hperm
      go_wp2
      go_ret
      refine ⟨A, c, rfl, h1, h2, Row.of_own Hfin.out.1 fun g hg => ?_, Hfin.out.2⟩
      have := Hfin.out.1.lt g hg
      exact ⟨by omega, this.2⟩
    · have hlen : L.length + 1 ≤ ks.length := by
        have h1 := hperm.length_eq
        rw [List.length_append] at h1
        have := List.length_pos_of_mem hk
        omega
      have Hst := fun w3 v' => hide (skin_start (w3 := w3) (v' := v') hk hrl hsk hrow hb hgrow hsize hmr2 · · hsz)
      have Hm := hide hmr
      have Hperm := hide (And.intro hk hperm)
      have hrow2 : w2.ownsRow (w.heap.size + 1) 9 1 _ L.length (L.map Value.string) := hrow.kept hgrow (.inr fun e => by have := (hrow.lt _ e).1; omega)
      have Hrow2 := hide hrow2
      have hb2 : w.heap.size + 1 ≤ w2.heap.size := by omega
      obtain ⟨A0, c0, rfl, h1, h2⟩ := own_form hrow2
      have hll : (L.length : Int) ≤ 8796093022208 := by omega
      have Hsize := hide hsize
      clear hsize hrow hrow2 hb hsk hmr hmr2 hgrow hperm hk
      go_wp2_with (at_builtin; refine wpList_append_own_at _ rfl (.tmp 12) (.tmp 14) 28 rfl (w.heap.size + 1) 9 i9 _ 1 16 Tryz.underlying28 hi9 hz9 hs9 hb9 rfl (by omega) _ L.length _ rfl (Hrow2.out.alloc _) ⟨w2.heap.size, 0, none⟩ 1 1 [.string k] rfl rfl (cells_at _ [.string k] _ _ rfl) ?c1 ?c2 ?c3 ?c4 ?_)
      case c1 => simp [Value.oneCell']
      case c2 => unfold maxLen; omega
      case c3 => omega
      case c4 => simp only [World.size_alloc]; omega
      intro v' w3 hown3 hg3 _ _
      obtain ⟨gr, c, rfl, hin0⟩ := (Hst w3 v').out hown3 hg3
      have Hin0 := hide hin0
      have Hnd := hide (show (L ++ [k]).Nodup by
        have h1 := Hperm.out.2.nodup_iff.2 Hm.out.is_.nodup
        refine List.nodup_append.2 ⟨(List.nodup_append.1 h1).1, by simp, ?_⟩
        intro a ha b hb
        rw [List.mem_singleton.1 hb]
        exact (List.nodup_append.1 h1).2.2 a ha k Hperm.out.1)
      clear Hst Hrow2 hown3 hg3 hin0 hrun hent h1 h2
      have hll2 : (0 : Int) ≤ (L.length : Int) := by omega
      go_wp2_with fail
      have Hlt := hide (show (left.filter fun x => decide (x ≠ k)).length < left.length from filter_less Hperm.out.1)
      have Hpm := hide (perm_pick (vis := L) Hperm.out.1 ((List.nodup_append.1 (Hperm.out.2.nodup_iff.2 Hm.out.is_.nodup)).2.1))
      have hlen2 : L.length + 1 ≤ 8796093022208 := by omega
      generalize (left.filter fun x => decide (x ≠ k)) = left2 at Hin0 Hlt Hpm
      have HN := hide hlen
      clear hlen
      obtain ⟨wo, rfl⟩ : ∃ wo : World, wo = wr := ⟨_, rfl⟩
      go_loopw [5] (fun s wr => SKIn w r ks val left2 (L ++ [k]) gr (L.length + 1) c L.length s wr) (fun s _ => (intOf s).toNat)
      case atStart => exact Hin0.out
      case round =>
        obtain ⟨M, j, rfl, hp, hin, hlM, hmr, hrow, hb⟩ := hrel
        have hji := hin.lt
        have hnd := hide (hp.nodup_iff.2 Hnd.out)
        cases j with
        | zero =>
          have Hp := hide hp
          have Hin2 := hide hin
          have Hst := hide (And.intro hmr (And.intro hrow hb))
          have HlM := hide hlM
          clear hp hin hmr hrow hb hlM Hin0
          rw [show ((0 : Nat) : Int) = 0 from rfl]
          go_wp2_with fail
          go_quiet (fail)
          go_wp2_with fail
          refine ⟨skin_done Hp.out (Hin2.out.done_ hnd.out (.inl rfl)) HlM.out Hst.out Hpm.out Hperm.out.2 _, ?_⟩
          rw [itMes_at (Hst.out.1.keep (w' := wr.drewN _) rfl rfl), itMes_at Hm.out]
          exact Hlt.out
        | succ m =>
          obtain ⟨x, hx⟩ : ∃ x, M[m + 1]? = some x := ⟨_, List.getElem?_eq_getElem (by omega)⟩
          obtain ⟨y, hy⟩ : ∃ y, M[m]? = some y := ⟨_, List.getElem?_eq_getElem (by omega)⟩
          have qx := skin_at hrow hlM _ _ hx
          have qy := skin_at hrow hlM _ _ hy
          have b1 : (m : Int) + 1 < (L.length : Int) + 1 := by omega
          have b2 : (m : Int) < (L.length : Int) + 1 := by omega
          have b3 : (0 : Int) ≤ (m : Int) := by omega
          have b4 : (0 : Int) ≤ (m : Int) + 1 := by omega
          have b5 : (0 : Int) < (m : Int) + 1 := by omega
          have e1 : IntKind.i64.wrap ((m : Int) + 1 - 1) = (m : Int) := by rw [IntWalk.i64_in _ (by omega)]; omega
          have e2 : ((m : Int) + 1).toNat = m + 1 := by omega
          have Hp := hide hp
          have Hin2 := hide hin
          have Hst := hide (And.intro hmr (And.intro hrow hb))
          have HlM := hide hlM
          have Hx := hide hx
          have Hy := hide hy
          clear hp hin hmr hrow hb hlM Hin0 hx hy
          rw [show ((m + 1 : Nat) : Int) = (m : Int) + 1 from rfl]
          cases hlt2 : Op.bytesLess x.toList y.toList
          · go_wp2_with fail
            go_quiet (fail)
            go_wp2_with fail
            refine ⟨skin_done Hp.out (Hin2.out.done_ hnd.out (.inr ⟨x, y, Hx.out, Hy.out, hlt2⟩)) HlM.out Hst.out Hpm.out Hperm.out.2 _, ?_⟩
            rw [itMes_at (Hst.out.1.keep (w' := wr.drewN _) rfl rfl), itMes_at Hm.out]
            exact Hlt.out
          · go_wp2_with fail
            go_quiet (fail)
            go_wp2_with fail
            generalize hWW : wr.drewN _ = W2
            have hst2 : MapRange W2 w.heap.size r ks val left2 ∧ W2.ownsRow (w.heap.size + 1) 9 1 (.slice (some ⟨gr, 0, none⟩) (L.length + 1) c) (L.length + 1) (M.map Value.string) ∧ Below w.heap.size w W2 := by
              rw [← hWW]
              obtain ⟨h1, h2, hb⟩ := Hst.out
              exact ⟨h1.keep rfl rfl, h2, ⟨hb.os, hb.tape, hb.output, hb.size, hb.block⟩⟩
            have qx := skin_at hst2.2.1 HlM.out _ _ Hx.out
            have qy := skin_at hst2.2.1 HlM.out _ _ Hy.out
            have qf : ∀ j, W2.frozen? ⟨gr, j, none⟩ = false := fun j => hst2.2.1.frozenAt j
            have Hst2 := hide hst2
            clear hst2 hWW Hst
            go_region
            all_goals go_wp2_with fail
            exact ⟨(skin_set hrl Hp.out Hin2.out HlM.out Hx.out Hy.out hlt2 Hst2.out.1 Hst2.out.2.1 Hst2.out.2.2).drewN 1, by simp [intOf]⟩
end Go.Proofs.YtajeghkjppkhcaaGreat
