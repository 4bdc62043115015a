/- Parts: SetTo, Pels, RowPs. -/
import Derived.Test.YtbicoknghdgahaaGreatKB15
import Derived.Test.YtbicoknghdgahaaGreatKB17
set_option linter.unusedVariables false
set_option linter.unusedSimpArgs false
namespace Go.Proofs.YtbicoknghdgahaaGreat
open Go.RowKit
attribute [local go_sem] run_store_float

def GivesSet (s : St) (w : World) (en : Ending) (w' : World) : Prop :=
 en = .returned (.pointer (some ⟨w.heap.size, 0, none⟩)) ∧ ∃ D, SetM (fun b => w.heap.size ≤ b ∧ b < w'.heap.size ∧ ¬ D b) w' D w.heap.size s ∧ (∀ b, D b → w.heap.size ≤ b ∧ b < w'.heap.size) ∧ Below w.heap.size w w'
theorem GivesSet.read {s : St} {w : World} {en : Ending} {w' : World} (h : GivesSet s w en w') : en = .returned (.pointer (some ⟨w.heap.size, 0, none⟩)) ∧ SetR (Fr w.heap.size w') w' w.heap.size s ∧ Below w.heap.size w w' := by
 obtain ⟨h1, D, h2, h3, h4⟩ := h
 exact ⟨h1, h2.read (fun b hb => ⟨hb.1, hb.2.1⟩) h3, h4⟩
def TSInv (w : World) (ps : List (List E)) (s9 : Value) (W : World) : Prop :=
 ∃ (k : Nat) (D : Nat → Prop), s9 = .int .i64 (k : Int) ∧ k ≤ ps.length ∧ SetM (fun b => w.heap.size ≤ b ∧ b < W.heap.size ∧ ¬ D b) W D w.heap.size (setP (ps.take k)) ∧ (∀ b, D b → w.heap.size ≤ b ∧ b < W.heap.size) ∧ Below w.heap.size w W

set_option maxRecDepth 100000 in
set_option maxHeartbeats 4000000 in
theorem toSet_calls {ls : List (List REl)} {A : Option Addr} {c : Nat} {w : World} (h : PathsAt (Old w) w ls A c) (hok : ∀ p ∈ pels ls, POk p) (hn : ls.length ≤ N38) : Calls Tryz.prog 72 #[.slice A ls.length c] w (GivesSet (setP (pels ls)) w) := by
 obtain ⟨h1, h2, h3, xs, h4, h5⟩ := h
 have hn' : ls.length ≤ 274877906944 := hn
 have H7 := hide (And.intro h4 h5)
 have Hok := hide hok
 have hpl : (pels ls).length = ls.length := List.length_map _
 clear h1 h4 h5 hok hn
 go_enter Tryz.func72, Tryz.ntmps72
 go_wp2_with fail
 refine (newSet_calls w).mono ?_
 rintro en w0 ⟨rfl, hw0⟩
 have hb0 : Below w.heap.size w w0 := by rw [hw0]; exact (Below.refl _ _).alloc (Nat.le_refl _) _
 have hs0 : SetM (fun b => w.heap.size ≤ b ∧ b < w0.heap.size ∧ ¬ b = w.heap.size) w0 (fun b => b = w.heap.size) w.heap.size (setP ((pels ls).take 0)) := by
  rw [hw0]
  exact .mk (Ds := fun _ _ => False) (G := fun _ => 0) (xs := []) (ys := []) rfl (Bk.new w _ _) (by simp) (by simp) (World.ownsRow_nil _ _ _ _) (World.ownsRow_nil _ _ _ _) (by simp [Value.ownBlock]) (by simp [Value.ownBlock]) Cells.nil_ rfl (by simp) (by simp) (by simp) (by simp)
 have hsz0 : w0.heap.size = w.heap.size + 1 := by rw [hw0, World.size_alloc]
 have H0 := hide (And.intro hb0 hs0)
 clear hw0 hb0 hs0
 go_wp2_with fail
 go_loopw [9] (fun s9 W => TSInv w (pels ls) s9 W) (fun s _ => ls.length - (intOf s).toNat)
 case atStart => exact ⟨0, fun b => b = w.heap.size, rfl, Nat.zero_le _, H0.out.2, fun b hb => by omega, H0.out.1⟩
 case round =>
  obtain ⟨k, D, rfl, hk, hset, hD, hb⟩ := hrel
  rw [hpl] at hk
  by_cases hlt : k < ls.length
  ·have hki0 : (0 : Int) ≤ (k : Int) := Int.natCast_nonneg _
   have hki1 : (k : Int) < (ls.length : Int) := by omega
   have hx := H7.out.2.at_ hlt
   have hsn : (pels ls).take (k + 1) = (pels ls).take k ++ [pel ls[k]] := by rw [List.take_succ_eq_append_getElem (by rw [hpl]; exact hlt)]; simp [pels]
   have hpo : POk (pel ls[k]) := Hok.out _ (by simp [pels]; exact ⟨_, List.getElem_mem _, rfl⟩)
   generalize ls[k] = l at *
   obtain ⟨B, d, ecs, hl⟩ := hx
   obtain ⟨rb, ro, rfl, hF, hc⟩ := rown_at H7.out.1 hlt ecs
   have q0 := ((bcell hb).1 _ _ hF).trans (hc 0 _ rfl)
   rw [Nat.mul_one, Nat.add_zero] at q0
   have hrb : rb < w.heap.size := hF
   have HP := hide (toPath_calls (hl.at_ hb))
   have hok1 : ∀ p ∈ (pels ls).take k, POk p := fun p hp => Hok.out p (List.mem_of_mem_take hp)
   have hwl := And.intro (setP_wf hok1) ((setP_le hok1).mono (n' := k) (by rw [List.length_take]; omega))
   have Hq := hide (And.intro hset (And.intro hD (And.intro hb (And.intro hsn (And.intro hpo hwl)))))
   have hwl0 : w.heap.size < wr.heap.size := by have := (hD w.heap.size hset.own.1).2; exact this
   clear hset hD hb hsn hpo hl ecs hc hF hok1 hwl
   go_wp2_with fail
   refine HP.out.mono ?_
   rintro en w1 ⟨A1, c1, rfl, hp1, hb1⟩
   have hs1 := hb1.size
   have hset1 : SetM (fun b => w.heap.size ≤ b ∧ b < w1.heap.size ∧ ¬ D b) w1 D w.heap.size (setP ((pels ls).take k)) :=
    (Hq.out.1.keeps (Keeps.below hb1 fun b hb => (Hq.out.2.1 b hb).2) (Keeps.below hb1 fun b hb => hb.2.1)).mono fun b hb => ⟨hb.1, by omega, hb.2.2⟩
   have hp2 : PPathAt (fun b => w.heap.size ≤ b ∧ b < w1.heap.size ∧ ¬ D b) w1 (pel l) A1 c1 := hp1.mono fun b hb => ⟨by have := hb.1; omega, hb.2, fun hd => by have := (Hq.out.2.1 b hd).2; have := hb.1; omega⟩
   have HI := hide (setInsert_calls hset1 (fun b hb => ⟨hb.2.1, hb.2.2⟩) (fun b hb => by have := (Hq.out.2.1 b hb).2; omega) Hq.out.2.2.2.2.2.1 Hq.out.2.2.2.2.2.2 (by unfold R47; omega) hp2 Hq.out.2.2.2.2.1)
   have H1 := hide hb1
   clear hp1 hp2 hset1 hb1 HP q0
   go_wp2_with fail
   refine HI.out.mono ?_
   rintro en w2 ⟨rfl, D', hset2, hD2, ho, htp, hou, hsz, hfr⟩
   have hset3 : SetM (fun b => w.heap.size ≤ b ∧ b < w2.heap.size ∧ ¬ D' b) w2 D' w.heap.size (setP ((pels ls).take (k + 1))) := by
    rw [Hq.out.2.2.2.1, setP_snoc]
    refine hset2.mono fun b hb => ⟨hb.1, by omega, fun hd => ?_⟩
    rcases (hD2 b hd).1 with h1 | h1
    ·exact hb.2.2 h1
    ·omega
   have hDf : ∀ b, D' b → w.heap.size ≤ b ∧ b < w2.heap.size := fun b hd => ⟨by
    rcases (hD2 b hd).1 with h1 | h1
    ·exact (Hq.out.2.1 b h1).1
    ·omega, (hD2 b hd).2⟩
   have hbf : Below w.heap.size w w2 := by
    have h1 := Hq.out.2.2.1.trans (H1.out.mono Hq.out.2.2.1.size)
    refine ⟨ho.trans h1.os, htp.trans h1.tape, hou.trans h1.output, Nat.le_trans h1.size hsz, fun b hb => ?_⟩
    rw [hfr b (by omega) fun hd => by have := (Hq.out.2.1 b hd).1; omega]
    exact h1.block b hb
   have Hfin := hide (And.intro hset3 (And.intro hDf hbf))
   clear hset2 hD2 ho htp hou hfr hset3 hDf hbf
   go_wp2_with fail
   exact ⟨⟨k + 1, D', by go_num, by rw [hpl]; omega, Hfin.out.1, Hfin.out.2.1, Hfin.out.2.2⟩, by simp [intOf]; omega⟩
  ·have hke : k = ls.length := by omega
   subst hke
   have hki1 : ¬ ((ls.length : Nat) : Int) < (ls.length : Int) := by omega
   rw [List.take_of_length_le (by rw [hpl]; omega)] at hset
   have H3 := hide (And.intro hset (And.intro hD hb))
   clear hb hset hD hlt
   go_wp2
   go_ret
   exact ⟨rfl, D, H3.out.1, H3.out.2.1, H3.out.2.2⟩

end Go.Proofs.YtbicoknghdgahaaGreat

namespace Go.Proofs.YtbicoknghdgahaaGreat
open Go.RowKit

theorem setP_ht47 {ls : List (List REl)} {F : Nat → Prop} {A : Option Addr} {c : Nat} {w : World} (h : PathsAt F w ls A c) : (setP (pels ls)).Ht (837723144946 + 1) := by
 refine setP_ht fun p hp => ?_
 obtain ⟨l, hl, rfl⟩ := List.mem_map.1 hp
 obtain ⟨i, hi, rfl⟩ := List.getElem_of_mem hl
 obtain ⟨h1, h2, h3, xs, h4, h5⟩ := h
 obtain ⟨B, d, -, h6, -⟩ := h5.at_ hi
 rw [pel_length]
 unfold R47 at h6
 omega

end Go.Proofs.YtbicoknghdgahaaGreat

namespace Go.Proofs.YtbicoknghdgahaaGreat
open Go.RowKit Go.ChangeShapes Go.WideShapes

section
variable {H : Type} {enc : TypeId × Value → H} {w : World}

theorem open_paths {fuel : Nat} {cs : List Value} {d : DataW H} {ps : List MemPlace} (h : DataW.trod enc Tryz.prog w 0 (fun _ => true) true fuel 36 cs = some (d, ps)) (hw : Small 36 d) :
  ∃ (A : Option Addr) (l : List (List REl)) (c : Nat), cs = [.slice A l.length c] ∧ PathsAt (Old w) w l A c := by
 obtain ⟨LA, len, lc, n', L, rfl, rfl, l1, l2, l3, l4, l5, l6, l7⟩ := open_slice (size := 1) (bytes := 24) Tryz.underlying36 (by kernel_rfl) (by kernel_rfl) (by decide) h hw
 have hall : ∀ i, i < len → ∃ r : List REl, ∀ x, L[i]? = some x → ∃ A c, x = [.slice A r.length c] ∧ PathAt (Old w) w r A c := by
  intro i hi
  obtain ⟨x, hx⟩ : ∃ x, L[i]? = some x := ⟨_, List.getElem?_eq_getElem (by omega)⟩
  obtain ⟨d', p', h8, h9⟩ := l7 i x hx
  obtain ⟨A, l, c, e, hr⟩ := open_path h8 h9
  refine ⟨l, fun y hy => ?_⟩
  rw [hx] at hy
  exact Option.some.inj hy ▸ ⟨A, c, e, hr⟩
 obtain ⟨f, hf'⟩ := Deep.choose_lt hall
 subst l4
 have hll : ((List.range L.length).map f).length = L.length := by simp
 refine ⟨LA, (List.range L.length).map f, lc, by rw [hll], by rw [hll]; exact l3, by rw [hll]; exact l1, l2, L.flatten, by rw [hll]; exact l5, by rw [hll]; exact l5.1, ?_⟩
 intro i r hr
 rw [List.getElem?_map] at hr
 obtain ⟨j, hj, rfl⟩ := Option.map_eq_some_iff.1 hr
 obtain ⟨hj1, hj2⟩ := List.getElem?_eq_some_iff.1 hj
 simp at hj1 hj2
 subst hj2
 have hx : L[i]? = some L[i] := List.getElem?_eq_getElem hj1
 rw [flat_part (by decide) L l6 i _ hx]
 exact hf' i hj1 _ hx

set_option maxRecDepth 100000 in
theorem open_Paths {base : Nat} {v : Value} {d : DataW H} {ps : List MemPlace} (h : DataW.Trod enc Tryz.prog w 0 (fun _ => true) true 36 v d ps) (hw : Small 36 d) (hok : Value.okWide Tryz.prog w .any base 36 v) : ∃ A l c, v = .slice A l.length c ∧ PathsAt (Old w) w l A c := by
 obtain ⟨fuel, hf⟩ := h
 obtain ⟨A, l, c, e, hs⟩ := open_paths hf hw
 obtain ⟨a, n, m, rfl⟩ := okWide_slice Tryz.underlying36 hok
 simp only [Value.cells, List.cons.injEq, and_true] at e
 exact ⟨A, l, c, e, hs⟩

end
end Go.Proofs.YtbicoknghdgahaaGreat
