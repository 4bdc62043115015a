/- Parts: FromTree, Cells, ElemM. -/
import Derived.Test.YtbicoknghdgahaaGreatKB04
set_option linter.unusedVariables false
set_option linter.unusedSimpArgs false
namespace Go.Proofs.YtbicoknghdgahaaGreat
open Go.RowKit
attribute [local go_sem] run_store_float run_load_k ta_ok0 ta_nil0 ta_ok1 ta_nil1 ta_ok2 ta_nil2 ta_ok8 ta_nil8 ta_ok13 ta_nil13 ta_ok14 ta_nil14

def TreeOK (t : T) : Prop := ∀ (w : World) (u : Value), AnyAt (Old w) w t u → Calls Tryz.prog 116 #[u] w (GivesRV (fun _ => False) t.toRV w)

theorem tree_flat {fn : Func} {p : Tmp} (hfn : fn.results = #[.cell p 27]) (tmps : Array Value) (w : World) (kind n : Int) (f : Nat) (s : ByteArray) {rr : RV} (hrr : rr = .mk kind n f s [] []) (h1 : okInt kind) (h2 : okInt n) (h3 : f < B64) (h4 : s.size ≤ R47)
  (hp : tmps.getD p undef = .pointer (some ⟨w.heap.size, 0, none⟩)) :
  bodyPost Tryz.prog fn (GivesRV (fun _ => False) rr w) .ret { tmps := tmps, defers := [] } (w.alloc (.cells #[.int .i64 kind, .int .i64 n, .float .f64 f, .string s, .slice none 0 0, .slice none 0 0] 27)) := by
 subst hrr
 refine bodyPost_ret (results_cell_row hfn _ _ w.heap.size 27 #[.int .i64 kind, .int .i64 n, .float .f64 f, .string s, .slice none 0 0, .slice none 0 0] (0, 0) _ hp (Bk.new w _ _) Tryz.underlying27 rfl (by kernel_rfl)) rfl ?_
 exact ⟨_, rfl, RVAt.flat _ _ _ _ h1 h2 h3 h4, (Below.refl _ _).alloc (Nat.le_refl _) _⟩

set_option maxRecDepth 100000 in
set_option maxHeartbeats 400000 in
theorem tree_scalar {t : T} {w : World} {u : Value} (h : AnyAt (Old w) w t u) (h5 : t.isList = false) (h6 : t.isMap = false) :
  Calls Tryz.prog 116 #[u] w (GivesRV (fun _ => False) t.toRV w) := by
 cases h with
 | null =>
  go_enter Tryz.func116, Tryz.ntmps116
  go_wp2
  exact tree_flat rfl _ _ 0 0 0 ⟨#[]⟩ rfl i0 i0 (by decide) (by decide) rfl
 | bool b =>
  cases b
  ·go_enter Tryz.func116, Tryz.ntmps116
   go_wp2
   exact tree_flat rfl _ _ 1 0 0 ⟨#[]⟩ rfl i1 i0 (by decide) (by decide) rfl
  ·go_enter Tryz.func116, Tryz.ntmps116
   go_wp2
   exact tree_flat rfl _ _ 1 1 0 ⟨#[]⟩ rfl i1 i1 (by decide) (by decide) rfl
 | @int n hn =>
  have Hn := hide hn
  clear hn
  go_enter Tryz.func116, Tryz.ntmps116
  go_wp2
  exact tree_flat rfl _ _ 2 n 0 ⟨#[]⟩ rfl ⟨by decide, by decide⟩ Hn.out (by decide) (by decide) rfl
 | @flt f hf =>
  have Hf := hide hf
  clear hf
  go_enter Tryz.func116, Tryz.ntmps116
  go_wp2
  exact tree_flat rfl _ _ 3 0 f ⟨#[]⟩ rfl ⟨by decide, by decide⟩ i0 Hf.out (by decide) rfl
 | @str s hs =>
  have Hs := hide hs
  clear hs
  go_enter Tryz.func116, Tryz.ntmps116
  go_wp2
  exact tree_flat rfl _ _ 4 0 0 s rfl ⟨by decide, by decide⟩ i0 (by decide) Hs.out rfl
 | list _ _ _ _ _ => cases h5
 | map _ _ _ _ _ _ => cases h6

def FInv (w : World) (kind : Int) (kv : Value) (B : Nat) (w1 : World) (rs : List RV) (ctr : Value) (W : World) : Prop :=
 ∃ (k : Nat) (us : List Value) (A : Option Addr) (c : Nat), k ≤ rs.length ∧ ctr = .int .i64 k ∧ Bk W w.heap.size 27 #[.int .i64 0, .int .i64 0, .float .f64 0, .string ⟨#[]⟩, .slice none 0 0, .slice none 0 0] ∧
  Bk W (w.heap.size + 1) 27 #[.int .i64 kind, .int .i64 0, .float .f64 0, .string ⟨#[]⟩, kv, .slice A k c] ∧ k ≤ c ∧ c ≤ maxLen ∧ W.ownsRow B 27 6 (.slice A k c) k us ∧ RVs (FrX B W (.slice A k c)) W (rs.take k) us ∧ Below w.heap.size w W ∧ B ≤ W.heap.size ∧
  (∀ b, w.heap.size + 2 ≤ b → b < B → W.heap[b]? = w1.heap[b]?)

theorem finv_step {w wr w1 w2 w3 : World} {kind : Int} {kv : Value} {B k c : Nat} {A : Option Addr} {rs : List RV} {r : RV} {us ccs : List Value} {out' : Value} (hB2 : w.heap.size + 2 ≤ B) (hk : k < rs.length) (hr : rs[k]? = some r)
  (hz : Bk wr w.heap.size 27 #[.int .i64 0, .int .i64 0, .float .f64 0, .string ⟨#[]⟩, .slice none 0 0, .slice none 0 0])
  (ho : Bk wr (w.heap.size + 1) 27 #[.int .i64 kind, .int .i64 0, .float .f64 0, .string ⟨#[]⟩, kv, .slice A k c])
  (hown : wr.ownsRow B 27 6 (.slice A k c) k us) (hus : RVs (FrX B wr (.slice A k c)) wr (rs.take k) us) (hb : Below w.heap.size w wr) (hB : B ≤ wr.heap.size)
  (hkeep : ∀ b, w.heap.size + 2 ≤ b → b < B → wr.heap[b]? = w1.heap[b]?)
  (hu : RVAt (fun b => False ∨ Fr wr.heap.size w2 b) w2 r ccs) (hb1 : Below wr.heap.size wr.drew w2)
  (hown2 : w3.ownsRow B 27 6 out' (k + 1) (us ++ ccs)) {o2 : Obj} (hg : (w2.alloc o2).grownBy w3 (Value.slice A k c).ownBlock) (hat : out'.ownBlock = (Value.slice A k c).ownBlock ∨ out'.ownBlock = some (w2.alloc o2).heap.size) :
  FInv w kind kv B w1 rs (.int .i64 ((k + 1 : Nat) : Int)) (w3.setCell ⟨w.heap.size + 1, 5, none⟩ out') := by
 have s0 := hb.size
 have s1 := hb1.size
 have s2 := hg.size
 simp only [World.size_alloc, World.drew] at s1 s2
 have hlt := hown.lt
 have hlt2 := hown2.lt
 have hne : ∀ b, b < B → some b ≠ (Value.slice A k c).ownBlock := fun b hb e => by have := (hlt b e.symm).1; omega
 have hold : ∀ b, b < B → b ≠ w.heap.size + 1 → (w3.setCell ⟨w.heap.size + 1, 5, none⟩ out').heap[b]? = wr.heap[b]? := by
  intro b hbb hne1
  rw [Below.heap_setCell _ _ _ _ (by show b ≠ w.heap.size + 1; exact hne1), hg.block b (by simp only [World.size_alloc]; omega) (hne b hbb), Below.heap_alloc _ _ _ (by omega), hb1.block b (by omega)]
  rfl
 have hsz : (w3.setCell ⟨w.heap.size + 1, 5, none⟩ out').heap.size = w3.heap.size := by simp
 have k2 : Keeps (FrX B wr (.slice A k c)) wr (w3.setCell ⟨w.heap.size + 1, 5, none⟩ out') := by
  intro b hbb
  obtain ⟨q1, q2, q3⟩ := hbb
  rw [Below.heap_setCell _ _ _ _ (by show b ≠ w.heap.size + 1; omega), hg.block b (by simp only [World.size_alloc]; omega) q3, Below.heap_alloc _ _ _ (by omega), hb1.block b (by omega)]
  rfl
 have g2 : ∀ b, FrX B wr (.slice A k c) b → FrX B (w3.setCell ⟨w.heap.size + 1, 5, none⟩ out') out' b := by
  rintro b ⟨q1, q2, q3⟩
  refine ⟨q1, by omega, ?_⟩
  rcases hat with e | e <;> rw [e]
  ·exact q3
  ·simp only [World.size_alloc, ne_eq, Option.some.injEq]; omega
 have k3 : Keeps (fun b => False ∨ Fr wr.heap.size w2 b) w2 (w3.setCell ⟨w.heap.size + 1, 5, none⟩ out') := by
  rintro b (hbb | hbb)
  ·exact hbb.elim
  obtain ⟨q1, q2⟩ := hbb
  rw [Below.heap_setCell _ _ _ _ (by show b ≠ w.heap.size + 1; have := ho.lt; omega), hg.block b (by simp only [World.size_alloc]; omega) (fun e => by have := (hlt b e.symm).2; omega), Below.heap_alloc _ _ _ q2]
 have g3 : ∀ b, (False ∨ Fr wr.heap.size w2 b) → FrX B (w3.setCell ⟨w.heap.size + 1, 5, none⟩ out') out' b := by
  rintro b (hbb | ⟨q1, q2⟩)
  ·exact hbb.elim
  refine ⟨by omega, by omega, ?_⟩
  rcases hat with e | e <;> rw [e]
  ·intro e'; have := (hlt b e'.symm).2; omega
  ·simp only [World.size_alloc, ne_eq, Option.some.injEq]; omega
 have ho3 : Bk w3 (w.heap.size + 1) 27 #[.int .i64 kind, .int .i64 0, .float .f64 0, .string ⟨#[]⟩, kv, .slice A k c] := by
  have h1 : Bk w2 (w.heap.size + 1) 27 #[.int .i64 kind, .int .i64 0, .float .f64 0, .string ⟨#[]⟩, kv, .slice A k c] := (hb1.block _ ho.lt).trans ho
  exact (h1.alloc _).grown hg (hne _ (by omega))
 have ho4 := ho3.set_ 5 out'
 simp at ho4
 have hr' : rs[k] = r := by rw [List.getElem?_eq_getElem hk] at hr; exact Option.some.inj hr
 obtain ⟨A', c', rfl, hc1, hc2⟩ := own_form hown2
 refine ⟨k + 1, us ++ ccs, A', c', by omega, rfl, (hold _ (by omega) (by omega)).trans hz, ho4, hc1, hc2, ownsRow_setCell_below hown2 (by show w.heap.size + 1 < B; omega) _, ?_, ?_, by omega, fun b h1 h2 => (hold b h2 (by omega)).trans (hkeep b h1 h2)⟩
 ·rw [List.take_succ_eq_append_getElem hk, hr']
  exact ((hus.keeps k2).mono g2).append (RVs.one ((hu.keeps k3).mono g3))
 ·have h1 : Below w.heap.size w w2 := hb.trans (below_of_drew (hb1.mono (by omega)))
  exact ((h1.alloc (by omega) o2).grown hg (by simp only [World.size_alloc]; omega) (fun g e => by have := (hlt g e).1; omega)).setCell (by show w.heap.size ≤ w.heap.size + 1; omega) _

theorem finv_end {fn : Func} {p : Tmp} (hfn : fn.results = #[.cell p 27]) (tmps : Array Value) {w wr : World} {kind : Int} {keys : List ByteArray} {KA A : Option Addr} {B kc c : Nat} {rs : List RV} {us : List Value} {w1 : World} (hB2 : w.heap.size + 2 ≤ B)
  (hz : Bk wr w.heap.size 27 #[.int .i64 0, .int .i64 0, .float .f64 0, .string ⟨#[]⟩, .slice none 0 0, .slice none 0 0])
  (ho : Bk wr (w.heap.size + 1) 27 #[.int .i64 kind, .int .i64 0, .float .f64 0, .string ⟨#[]⟩, .slice KA keys.length kc, .slice A rs.length c]) (h1 : rs.length ≤ c) (h2 : c ≤ maxLen)
  (hown : wr.ownsRow B 27 6 (.slice A rs.length c) rs.length us) (hus : RVs (FrX B wr (.slice A rs.length c)) wr rs us) (hb : Below w.heap.size w wr) (hB : B ≤ wr.heap.size) (hkeep : ∀ b, w.heap.size + 2 ≤ b → b < B → wr.heap[b]? = w1.heap[b]?)
  (hK : okInt kind) (hK16 : keys.length * 16 ≤ R47) (hKs : ∀ k ∈ keys, k.size ≤ R47) (hkc : keys.length ≤ kc) (hkc2 : kc ≤ maxLen) (hrow : Row (fun b => w.heap.size + 2 ≤ b ∧ b < B) w1 1 KA keys.length (keys.map Value.string)) (hr88 : rs.length * 88 ≤ R47)
  (hp : tmps.getD p undef = .pointer (some ⟨w.heap.size, 0, none⟩)) :
  bodyPost Tryz.prog fn (GivesRV (fun _ => False) (.mk kind 0 0 ⟨#[]⟩ keys rs) w) .ret { tmps := tmps, defers := [] } (set6 wr w.heap.size (.int .i64 kind) (.int .i64 0) (.float .f64 0) (.string ⟨#[]⟩) (.slice KA keys.length kc) (.slice A rs.length c)) := by
 have hs6 := set6_heap wr w.heap.size (.int .i64 kind) (.int .i64 0) (.float .f64 0) (.string ⟨#[]⟩) (.slice KA keys.length kc) (.slice A rs.length c)
 have hlt := hown.lt
 refine bodyPost_ret (results_cell_row hfn _ _ w.heap.size 27 #[.int .i64 kind, .int .i64 0, .float .f64 0, .string ⟨#[]⟩, .slice KA keys.length kc, .slice A rs.length c] (0, 0) _ hp (set6_same _ _ _ _ _ _ hz) Tryz.underlying27 rfl (by kernel_rfl)) rfl ?_
 have hval : RVAt (fun b => w.heap.size + 2 ≤ b ∧ b < wr.heap.size) wr (.mk kind 0 0 ⟨#[]⟩ keys rs) [.int .i64 kind, .int .i64 0, .float .f64 0, .string ⟨#[]⟩, .slice KA keys.length kc, .slice A rs.length c] :=
  RVAt.mk hK i0 (by decide) (by decide) hKs hK16 hr88 hkc hkc2 h1 h2 ((hrow.keeps (w' := wr) fun b hb => hkeep b hb.1 hb.2).mono fun b hb => ⟨hb.1, by omega⟩)
   ((Row.of_own hown (F := fun b => w.heap.size + 2 ≤ b ∧ b < wr.heap.size) fun g hg => ⟨by have := (hlt g hg).1; omega, (hlt g hg).2⟩)) (hus.mono fun b hb => ⟨by have := hb.1; omega, hb.2.1⟩).2
 exact ⟨_, rfl, (hval.keeps fun b hb => hs6 b (by have := hb.1; omega)).mono fun b hb => .inr ⟨by have := hb.1; omega, by rw [set6_size]; exact hb.2⟩, set6_below _ _ _ _ _ _ hb (Nat.le_refl _)⟩

def FS (g : Nat) (v : Value) (W : World) : Prop := W.cell? ⟨g, 5, none⟩ = some v

set_option maxRecDepth 100000 in
set_option maxHeartbeats 2000000 in
theorem tree_list {l : List T} {w : World} {u : Value} (ih : ∀ t ∈ l, TreeOK t) (h : AnyAt (Old w) w (.list l) u) :
  Calls Tryz.prog 116 #[u] w (GivesRV (fun _ => False) (T.list l).toRV w) := by
 obtain ⟨i26, hi26, hz26, hs26, hb26⟩ := info_parts val_info
 have ht : (T.list l).toRV = .mk 5 0 0 ⟨#[]⟩ [] (l.map T.toRV) := by simp [T.toRV, toRVL_eq]; rfl
 rw [ht]
 cases h with
 | @list _ A c xs h1 h2 h3 h4 h5 =>
 have hll : l.length ≤ 8796093022208 := by unfold R47 at h1; omega
 have Hll := hide h1
 have h1' : l.length * 88 ≤ 140737488351232 := h1
 have HL := hide h4
 have HX := hide h5
 have Hih := hide ih
 clear h1 h2 h3 h4 h5 ht ih
 go_enter Tryz.func116, Tryz.ntmps116
 go_wp2
 go_loopw [43] (fun s wr => FInv w 5 (.slice none 0 0) (w.heap.size + 2) w (l.map T.toRV) s wr) (fun s _ => l.length - (intOf s).toNat)
 case atStart =>
  have hO := Bk.new (w.alloc (.cells #[.int .i64 0, .int .i64 0, .float .f64 0, .string ⟨#[]⟩, .slice none 0 0, .slice none 0 0] 27)) 27 #[.int .i64 5, .int .i64 0, .float .f64 0, .string ⟨#[]⟩, .slice none 0 0, .slice none 0 0]
  simp only [World.size_alloc] at hO
  exact ⟨0, [], none, 0, Nat.zero_le _, rfl, (Bk.new w _ _).alloc _, hO, Nat.le_refl _, by simp, World.ownsRow_nil _ _ _ _, RVs.nil_, ((Below.refl _ _).alloc (Nat.le_refl _) _).alloc (by simp) _, by simp, fun b h1 h2 => by omega⟩
 case round =>
  obtain ⟨k, us, A1, c1, hk, rfl, hz, ho, hc1, hc2, hown, hus, hb, hB, hkeep⟩ := hrel
  rw [List.length_map] at hk
  by_cases hlt : k < l.length
  ·have hgk : l[k]? = some l[k] := List.getElem?_eq_getElem hlt
   have hik := Hih.out l[k] (List.getElem_mem hlt)
   obtain ⟨uu, huu⟩ : ∃ uu, xs[k]? = some uu := ⟨_, List.getElem?_eq_getElem (by have := HL.out.1; omega)⟩
   have huk := HX.out k _ _ hgk huu
   obtain ⟨b, o, rfl, hF, hcell⟩ := row1_at HL.out hlt huu
   rw [← (bcell hb).1 _ _ hF] at hcell
   have hgr : (l.map T.toRV)[k]? = some l[k].toRV := by rw [List.getElem?_map, hgk]; rfl
   generalize l[k] = t at hik huk hgr
   have hone := huk.one
   have hcall := hik wr.drew uu ((huk.keeps (w' := wr.drew) fun b h => hb.block b h).mono fun b h => Nat.lt_of_lt_of_le h hb.size)
   have Hst := fun w2 w3 ccs out' o2 => hide (finv_step (w2 := w2) (w3 := w3) (ccs := ccs) (out' := out') (o2 := o2) (Nat.le_refl _) (by rw [List.length_map]; exact hlt) hgr hz ho hown hus hb hB hkeep)
   have q5 := ho.cell 5
   simp at q5
   have hos : w.heap.size + 1 < wr.heap.size := ho.lt
   have hki0 : (0 : Int) ≤ (k : Int) := Int.natCast_nonneg _
   have hki1 : (k : Int) < (l.length : Int) := by omega
   have Hcall := hide hcall
   have Ho := hide (And.intro ho hown)
   clear hz ho hown hus hb hB hkeep hgk hik huu huk hF hgr hcall hk
   obtain ⟨hn1, hn2⟩ := hone
   go_wp2_with fail
   have hS0 : FS (w.heap.size + 1) (.slice A1 k c1) wr.drew := q5
   obtain ⟨S, hS⟩ : ∃ S, FS (w.heap.size + 1) (.slice A1 k c1) = S := ⟨_, rfl⟩
   rw [hS] at hS0
   refine wp_region_head 5 S (by rfl) (by kernel_rfl) ?_
   have hX := hide (show ∀ W : World, S W → W.cell? ⟨w.heap.size + 1, 5, none⟩ = some (.slice A1 k c1) from fun W hSw => by rw [← hS] at hSw; exact hSw)
   iterate 3
    refine HT.nx (v := ?_) rfl (by kernel_rfl) (fun _ _ _ h => h) (Or.inl ⟨by rfl, ?_⟩) ‹_› ?_
    rotate_left
    ·intro W hSw; have hSw := hX.out W hSw; go_simp; with_reducible rfl
    simp only [Act.put, zzA, zzZ, zzS]
   clear hX
   refine HT.one 3 rfl (by kernel_rfl) (by rfl) (fun K hK => ?_)
   go_simp
   refine Hcall.out.mono ?_
   rintro e w2 ⟨ccs, rfl, hcc, hb2⟩
   obtain ⟨d0, d1, d2, d3, d4, d5, rfl⟩ := hcc.six
   have hS2 : S w2 := by rw [← hS]; exact ((bcell hb2).1 _ _ hos).trans q5
   go_simp
   refine hK.out _ _ hS2 ?_
   clear hK K
   refine HT.one 4 rfl (by kernel_rfl) (by rfl) (fun K hK => ?_)
   go_simp
   have hsz2 : wr.heap.size ≤ w2.heap.size := hb2.size
   refine hK.out _ _ (by rw [← hS] at hS2 ⊢; exact ((bcell ((Below.refl w2.heap.size w2).alloc (Nat.le_refl _) _)).1 _ _ (by omega)).trans hS2) ?_
   clear hK K
   refine HT.done (by kernel_rfl) ?_
   simp only [List.drop_succ_cons, List.drop_zero]
   have hones := (RVs.one hcc).ones
   clear hS0 hS2 hS q5
   go_wp2_with (at_builtin; refine wpList_append_own_at _ rfl (.tmp 48) (.tmp 51) 23 rfl (w.heap.size + 2) 27 i26 _ 6 88 Tryz.underlying23 hi26 hz26 hs26 hb26 rfl (by omega) _ k us rfl ((ownsRow_below (w := wr.drew) Ho.out.2 hb2 (Nat.le_refl _)).alloc _) ⟨w2.heap.size, 0, none⟩ 1 1 [d0, d1, d2, d3, d4, d5] rfl rfl (cells_at _ [d0, d1, d2, d3, d4, d5] _ _ (by simp)) ?c1 ?c2 ?c3 ?c4 ?_)
   case c2 => unfold maxLen; omega
   case c3 => omega
   case c4 => omega
   intro out' w3 hown3 hg3 _ hat3
   have Hinv := hide ((Hst w2 w3 _ out' _).out hcc hb2 hown3 hg3 (by rw [World.size_alloc]; exact hat3))
   have ho3 : Bk w3 (w.heap.size + 1) 27 #[.int .i64 5, .int .i64 0, .float .f64 0, .string ⟨#[]⟩, .slice none 0 0, .slice A1 k c1] := by
    have h1 : Bk w2 (w.heap.size + 1) 27 #[.int .i64 5, .int .i64 0, .float .f64 0, .string ⟨#[]⟩, .slice none 0 0, .slice A1 k c1] := (hb2.block _ hos).trans Ho.out.1
    exact (h1.alloc _).grown hg3 (fun e => by have := (Ho.out.2.lt _ e.symm).1; omega)
   have q6 : ∀ i, w3.frozen? ⟨w.heap.size + 1, i, none⟩ = false := fun i => ho3.free i
   have q7 := ho3.cell 5
   simp at q7
   obtain ⟨oA, oc, rfl, hoc1, hoc2⟩ := own_form hown3
   clear hown3 hg3 hat3 hcc hb2 hones Hst ho3 Ho
   go_wp2
   exact ⟨Hinv.out, by simp [intOf]; omega⟩
  ·have hke : k = l.length := by omega
   subst hke
   rw [List.take_of_length_le (by simp)] at hus
   have hend := fun tmps hp => finv_end (fn := Tryz.f116) (p := 2) rfl tmps (keys := []) (rs := l.map T.toRV) (KA := none) (kc := 0) (A := A1) (c := c1) (us := us) (w1 := w) (B := w.heap.size + 2) (Nat.le_refl _) hz (by rw [List.length_map]; exact ho) (by rw [List.length_map]; exact hc1) hc2 (by rw [List.length_map]; exact hown) (by rw [List.length_map]; exact hus) hb hB hkeep i5 (by simp [R47]) (by simp) (Nat.le_refl _) (by simp) Row.nil_ (by rw [List.length_map]; exact Hll.out) hp
   rw [List.length_map] at hend
   have Hend := hide hend
   have q0 := ho.cell 0
   have q1 := ho.cell 1
   have q2 := ho.cell 2
   have q3 := ho.cell 3
   have q4 := ho.cell 4
   have q5 := ho.cell 5
   have p0 := hz.cell 0
   have p1 := hz.cell 1
   have p2 := hz.cell 2
   have p3 := hz.cell 3
   have p4 := hz.cell 4
   have p5 := hz.cell 5
   have p6 : ∀ i, wr.frozen? ⟨w.heap.size, i, none⟩ = false := fun i => hz.free i
   simp at q0 q1 q2 q3 q4 q5 p0 p1 p2 p3 p4 p5
   clear hend hz ho hown hus hb hB hkeep
   go_wp2
   exact Hend.out _ rfl

def FM (g : Nat) (v : Value) (r : Nat) (ks : List ByteArray) (val : ByteArray → Value) (W : World) : Prop := W.cell? ⟨g, 5, none⟩ = some v ∧ MapIs W r ks val

set_option maxRecDepth 100000 in
set_option maxHeartbeats 2000000 in
theorem tree_map {l : List (ByteArray × T)} {w : World} {u : Value} (ih : ∀ p ∈ l, TreeOK p.2) (h : AnyAt (Old w) w (.map l) u) :
  Calls Tryz.prog 116 #[u] w (GivesRV (fun _ => False) (T.map l).toRV w) := by
 obtain ⟨i26, hi26, hz26, hs26, hb26⟩ := info_parts val_info
 have ht : (T.map l).toRV = .mk 6 0 0 ⟨#[]⟩ (l.map Prod.fst) (l.map fun p => p.2.toRV) := by simp [T.toRV, toRVM_eq]; rfl
 rw [ht]
 cases h with
 | @map _ r val h1 h2 h3 h4 h5 h6 =>
 have hll : l.length ≤ 8796093022208 := by unfold R47 at h1; omega
 have Hll := hide h1
 have h1' : l.length * 88 ≤ 140737488351232 := h1
 have HM := hide h5
 have HX := hide h6
 have HKs := hide h2
 have hr : r < w.heap.size := h4
 have Hsk := fun W (hW : Below w.heap.size w W) => hide (sortedKeys_calls (h5.keep (w' := W) (hW.block _ hr)) (sortK_of h3) (by rw [List.length_map]; unfold R47 at h1 ⊢; omega))
 have Hih := hide ih
 clear h1 h2 h3 h4 h5 h6 ht ih
 go_enter Tryz.func116, Tryz.ntmps116
 go_wp2_with fail
 have hb0 : Below w.heap.size w ((w.alloc (.cells #[.int .i64 0, .int .i64 0, .float .f64 0, .string ⟨#[]⟩, .slice none 0 0, .slice none 0 0] 27)).alloc (.cells #[.int .i64 6, .int .i64 0, .float .f64 0, .string ⟨#[]⟩, .slice none 0 0, .slice none 0 0] 27)) := ((Below.refl _ _).alloc (Nat.le_refl _) _).alloc (by simp) _
 refine (Hsk _ hb0).out.mono ?_
 rintro e w1 ⟨KA, kc, rfl, hkc, hkc2, hrow, hb1⟩
 have hO := Bk.new (w.alloc (.cells #[.int .i64 0, .int .i64 0, .float .f64 0, .string ⟨#[]⟩, .slice none 0 0, .slice none 0 0] 27)) 27 #[.int .i64 6, .int .i64 0, .float .f64 0, .string ⟨#[]⟩, .slice none 0 0, .slice none 0 0]
 simp only [World.size_alloc] at hO
 have hZ1 := ((Bk.new w 27 #[.int .i64 0, .int .i64 0, .float .f64 0, .string ⟨#[]⟩, .slice none 0 0, .slice none 0 0]).alloc (.cells #[.int .i64 6, .int .i64 0, .float .f64 0, .string ⟨#[]⟩, .slice none 0 0, .slice none 0 0] 27)).below hb1 (by simp; omega)
 have hO1 := hO.below hb1 (by simp)
 have hbw : Below w.heap.size w w1 := hb0.trans (hb1.mono (by simp; omega))
 have hs1 : w.heap.size + 2 ≤ w1.heap.size := by have := hb1.size; simpa using this
 rw [List.length_map] at hkc hrow
 have hrow' : Row (fun b => w.heap.size + 2 ≤ b ∧ b < w1.heap.size) w1 1 KA l.length ((l.map Prod.fst).map Value.string) := hrow.mono fun b hb => by simpa [Fr] using hb
 have q0 := hO1.cell 4
 have q6 : ∀ i, w1.frozen? ⟨w.heap.size + 1, i, none⟩ = false := fun i => hO1.free i
 simp at q0
 have Hst := hide (And.intro hZ1 (And.intro hO1 (And.intro hbw hrow')))
 have Hkc := hide (And.intro hkc hkc2)
 clear hO hZ1 hO1 hbw hrow hrow' hb1 Hsk hb0 hkc hkc2
 rw [List.length_map]
 go_wp2_with fail
 go_loopw [66] (fun s wr => FInv w 6 (.slice KA l.length kc) w1.heap.size w1 (l.map fun p => p.2.toRV) s wr) (fun s _ => l.length - (intOf s).toNat)
 case atStart =>
  obtain ⟨hZ1, hO1, hbw, _⟩ := Hst.out
  have hO2 := hO1.set_ 4 (.slice KA l.length kc)
  simp at hO2
  exact ⟨0, [], none, 0, Nat.zero_le _, rfl, hZ1.far (by simp) _, hO2, Nat.le_refl _, by simp, World.ownsRow_nil _ _ _ _, RVs.nil_, hbw.setCell (by show w.heap.size ≤ w.heap.size + 1; omega) _, by simp, fun b h1 h2 => Below.heap_setCell _ _ _ _ (by show b ≠ w.heap.size + 1; omega)⟩
 case round =>
  obtain ⟨k, us, A1, c1, hk, rfl, hz, ho, hc1, hc2, hown, hus, hb, hB, hkeep⟩ := hrel
  rw [List.length_map] at hk
  by_cases hlt : k < l.length
  ·have hgk : l[k]? = some l[k] := List.getElem?_eq_getElem hlt
   have hik := Hih.out l[k] (List.getElem_mem hlt)
   have huk := HX.out l[k].1 l[k].2 (List.getElem_mem hlt)
   have hmem : l[k].1 ∈ l.map Prod.fst := List.mem_map.2 ⟨_, List.getElem_mem hlt, rfl⟩
   obtain ⟨b, o, rfl, hF, hcell⟩ := row1_at (u := .string l[k].1) Hst.out.2.2.2 hlt (by simp [hlt])
   rw [← World.cell?_of_block (w := w1) (w' := wr) (a := ⟨b, o + k, none⟩) (hkeep b hF.1 hF.2)] at hcell
   have hgr : (l.map fun p => p.2.toRV)[k]? = some l[k].2.toRV := by rw [List.getElem?_map, hgk]; rfl
   generalize l[k] = t at hik huk hgr hmem hcell
   obtain ⟨key, t⟩ := t
   simp only at hik huk hgr hmem hcell
   have hone := huk.one
   have hcall := hik wr.drew (val key) ((huk.keeps (w' := wr.drew) fun b h => hb.block b h).mono fun b h => Nat.lt_of_lt_of_le h hb.size)
   have Hst2 := fun w2 w3 ccs out' o2 => hide (finv_step (w2 := w2) (w3 := w3) (ccs := ccs) (out' := out') (o2 := o2) (by omega) (by rw [List.length_map]; exact hlt) hgr hz ho hown hus hb hB hkeep)
   have q5 := ho.cell 5
   have q4 := ho.cell 4
   simp at q5 q4
   have hos : w.heap.size + 1 < wr.heap.size := ho.lt
   have hrr : r < wr.heap.size := by omega
   have hki0 : (0 : Int) ≤ (k : Int) := Int.natCast_nonneg _
   have hki1 : (k : Int) < (l.length : Int) := by omega
   have Hm := hide (HM.out.keep (w' := wr.drew) (hb.block _ hr))
   have Hcall := hide hcall
   have Ho := hide (And.intro ho hown)
   have Hmem := hide hmem
   have hBw : w1.heap.size ≤ wr.heap.size := hB
   clear hz ho hown hus hb hB hkeep hgk hik huk hF hgr hcall hk hmem
   obtain ⟨hn1, hn2⟩ := hone
   go_wp2_with fail
   have hS0 : FM (w.heap.size + 1) (.slice A1 k c1) r (l.map Prod.fst) val wr.drew := ⟨q5, Hm.out⟩
   obtain ⟨S, hS⟩ : ∃ S, FM (w.heap.size + 1) (.slice A1 k c1) r (l.map Prod.fst) val = S := ⟨_, rfl⟩
   rw [hS] at hS0
   refine wp_region_head 7 S (by rfl) (by kernel_rfl) ?_
   iterate 5
    refine HT.nx (v := ?_) rfl (by kernel_rfl) (fun _ _ _ h => h) (Or.inl ⟨by rfl, ?_⟩) ‹_› ?_
    rotate_left
    ·intro W hSw; rw [← hS] at hSw; obtain ⟨hSw, hSm⟩ := show W.cell? ⟨w.heap.size + 1, 5, none⟩ = some (.slice A1 k c1) ∧ MapIs W r (l.map Prod.fst) val from hSw; have hlk := (hSm.lookup_ok Tryz.underlying307 Tryz.underlying9 key Hmem.out).2; clear hSm; go_simp; with_reducible rfl
    simp only [Act.put, zzA, zzZ, zzS]
   refine HT.one 5 rfl (by kernel_rfl) (by rfl) (fun K hK => ?_)
   go_simp
   refine Hcall.out.mono ?_
   rintro e w2 ⟨ccs, rfl, hcc, hb2⟩
   obtain ⟨d0, d1, d2, d3, d4, d5, rfl⟩ := hcc.six
   have hS2 : S w2 := by rw [← hS]; exact ⟨((bcell hb2).1 _ _ hos).trans q5, Hm.out.keep (hb2.block _ hrr)⟩
   go_simp
   refine hK.out _ _ hS2 ?_
   clear hK K
   refine HT.one 6 rfl (by kernel_rfl) (by rfl) (fun K hK => ?_)
   go_simp
   have hsz2 : wr.heap.size ≤ w2.heap.size := hb2.size
   refine hK.out _ _ (by rw [← hS] at hS2 ⊢; exact ⟨((bcell ((Below.refl w2.heap.size w2).alloc (Nat.le_refl _) _)).1 _ _ (by omega)).trans hS2.1, hS2.2.keep (Below.heap_alloc _ _ _ (by omega))⟩) ?_
   clear hK K
   refine HT.done (by kernel_rfl) ?_
   simp only [List.drop_succ_cons, List.drop_zero]
   have hones := (RVs.one hcc).ones
   have hB' : w1.heap.size ≤ w2.heap.size := by omega
   clear hS0 hS2 hS q5
   go_wp2_with (at_builtin; refine wpList_append_own_at _ rfl (.tmp 71) (.tmp 76) 23 rfl w1.heap.size 27 i26 _ 6 88 Tryz.underlying23 hi26 hz26 hs26 hb26 rfl (by omega) _ k us rfl ((ownsRow_below (w := wr.drew) Ho.out.2 hb2 (Nat.le_refl _)).alloc _) ⟨w2.heap.size, 0, none⟩ 1 1 [d0, d1, d2, d3, d4, d5] rfl rfl (cells_at _ [d0, d1, d2, d3, d4, d5] _ _ (by simp)) ?c1 ?c2 ?c3 ?c4 ?_)
   case c2 => unfold maxLen; omega
   case c3 => omega
   case c4 => omega
   intro out' w3 hown3 hg3 _ hat3
   have Hinv := hide ((Hst2 w2 w3 _ out' _).out hcc hb2 hown3 hg3 (by rw [World.size_alloc]; exact hat3))
   have ho3 : Bk w3 (w.heap.size + 1) 27 #[.int .i64 6, .int .i64 0, .float .f64 0, .string ⟨#[]⟩, .slice (some ⟨b, o, none⟩) l.length kc, .slice A1 k c1] := by
    have h1 : Bk w2 (w.heap.size + 1) 27 #[.int .i64 6, .int .i64 0, .float .f64 0, .string ⟨#[]⟩, .slice (some ⟨b, o, none⟩) l.length kc, .slice A1 k c1] := (hb2.block _ hos).trans Ho.out.1
    exact (h1.alloc _).grown hg3 (fun e => by have := (Ho.out.2.lt _ e.symm).1; omega)
   have q6 : ∀ i, w3.frozen? ⟨w.heap.size + 1, i, none⟩ = false := fun i => ho3.free i
   have q7 := ho3.cell 5
   simp at q7
   obtain ⟨oA, oc, rfl, hoc1, hoc2⟩ := own_form hown3
   clear hown3 hg3 hat3 hcc hb2 hones Hst2 ho3 Ho
   go_wp2
   exact ⟨Hinv.out, by simp [intOf]; omega⟩
  ·have hke : k = l.length := by omega
   subst hke
   rw [List.take_of_length_le (by simp)] at hus
   have hend := fun tmps hp => finv_end (fn := Tryz.f116) (p := 2) rfl tmps (keys := l.map Prod.fst) (rs := l.map fun p => p.2.toRV) (KA := KA) (kc := kc) (A := A1) (c := c1) (us := us) (w1 := w1) (B := w1.heap.size) hs1 hz (by rw [List.length_map, List.length_map]; exact ho) (by rw [List.length_map]; exact hc1) hc2 (by rw [List.length_map]; exact hown) (by rw [List.length_map]; exact hus) hb hB hkeep ⟨by decide, by decide⟩ (by rw [List.length_map]; unfold R47; omega) (fun k hk => by obtain ⟨p, hp, rfl⟩ := List.mem_map.1 hk; exact HKs.out p hp) (by rw [List.length_map]; exact Hkc.out.1) Hkc.out.2 (by rw [List.length_map]; exact Hst.out.2.2.2) (by rw [List.length_map]; exact Hll.out) hp
   rw [List.length_map, List.length_map] at hend
   have Hend := hide hend
   have q0 := ho.cell 0
   have q1 := ho.cell 1
   have q2 := ho.cell 2
   have q3 := ho.cell 3
   have q4 := ho.cell 4
   have q5 := ho.cell 5
   have p0 := hz.cell 0
   have p1 := hz.cell 1
   have p2 := hz.cell 2
   have p3 := hz.cell 3
   have p4 := hz.cell 4
   have p5 := hz.cell 5
   have p6 : ∀ i, wr.frozen? ⟨w.heap.size, i, none⟩ = false := fun i => hz.free i
   simp at q0 q1 q2 q3 q4 q5 p0 p1 p2 p3 p4 p5
   clear hend hz ho hown hus hb hB hkeep
   go_wp2
   exact Hend.out _ rfl

theorem tree_all : ∀ (m : Nat) (t : T), t.rank < m → TreeOK t
 | 0, _, h => absurd h (by omega)
 | m + 1, t, h => by
  intro w u hu
  cases hl : t.isList
  ·cases hm : t.isMap
   ·exact tree_scalar hu hl hm
   ·cases t <;> try cases hm
    rename_i l
    exact tree_map (fun p hp => tree_all m p.2 (by have := T.rank_map (k := p.1) (t := p.2) hp; omega)) hu
  ·cases t <;> try cases hl
   rename_i l
   exact tree_list (fun t ht => tree_all m t (by have := T.rank_list ht; omega)) hu

theorem fromTree_calls (t : T) : TreeOK t := tree_all _ t (Nat.lt_succ_self _)

end Go.Proofs.YtbicoknghdgahaaGreat

namespace Go.Proofs.YtbicoknghdgahaaGreat
open Go.RowKit
attribute [local go_sem] run_store_float run_load_k

section
variable {α : Type} {n : Nat} {P Q : α → List Value → Prop} {ls bs : List α} {xs ys : List Value}
theorem Cells.nil_ : Cells n P [] [] := ⟨by simp, by simp⟩
end

attribute [local go_sem] meth_Unstructured

theorem RVAt.form {F : Nat → Prop} {w : World} {r : RV} {cs : List Value} (h : RVAt F w r cs) :
  ∃ (kind n : Int) (f : Nat) (s : ByteArray) (KA : Option Addr) (kl kc : Nat) (LA : Option Addr) (ll lc : Nat), cs = [.int .i64 kind, .int .i64 n, .float .f64 f, .string s, .slice KA kl kc, .slice LA ll lc] := by
 cases h; exact ⟨_, _, _, _, _, _, _, _, _, _, rfl⟩

set_option maxRecDepth 100000 in
set_option maxHeartbeats 400000 in
theorem fromValue_calls {t : T} {v : Value} {w : World} (h : ValAt (Old w) w t v) :
  Calls Tryz.prog 64 #[v] w (GivesRV (fun _ => False) t.toRV w) := by
 obtain ⟨g, u, rfl, hg, hB, hu⟩ := h
 have hgl : g < w.heap.size := hg
 have q0 := hB.cell 0
 simp at q0
 have Hu := hide hu
 clear hB hu hg
 go_enter Tryz.func64, Tryz.ntmps64
 go_wp2_with fail
 refine (Unstructured_calls Hu.out _).mono ?_
 rintro e w1 ⟨rfl, hw1⟩
 have hb1 : Below w.heap.size w w1 := by rw [← hw1]; exact below_two _ _ _
 have hz : Bk w1 w.heap.size 27 #[.int .i64 0, .int .i64 0, .float .f64 0, .string ⟨#[]⟩, .slice none 0 0, .slice none 0 0] := by rw [← hw1]; exact (Bk.new _ _ _).alloc _
 have Hcall := hide (fromTree_calls t w1 u ((Hu.out.keeps (Keeps.below hb1 fun b h => h)).mono fun b h => Nat.lt_of_lt_of_le h hb1.size))
 have Hz := hide (And.intro hz hb1)
 clear hz hb1 hw1
 go_wp2_with fail
 refine Hcall.out.mono ?_
 rintro e w2 ⟨ccs, rfl, hcc, hb2⟩
 have hz2 := Hz.out.1.below hb2 Hz.out.1.lt
 have hbw : Below w.heap.size w w2 := Hz.out.2.trans (hb2.mono Hz.out.2.size)
 obtain ⟨d0, d1, d2, d3, KA, kl, kc, LA, ll, lc, rfl⟩ := hcc.form
 have hcc' := hcc.mono (G := fun b => w.heap.size + 1 ≤ b ∧ b < w2.heap.size) fun b hb => by
  rcases hb with hb | hb
  ·exact hb.elim
  ·exact ⟨by have := hb.1; have := Hz.out.1.lt; omega, hb.2⟩
 have p0 := hz2.cell 0
 have p1 := hz2.cell 1
 have p2 := hz2.cell 2
 have p3 := hz2.cell 3
 have p4 := hz2.cell 4
 have p5 := hz2.cell 5
 have p6 : ∀ i, w2.frozen? ⟨w.heap.size, i, none⟩ = false := fun i => hz2.free i
 simp at p0 p1 p2 p3 p4 p5
 have Hend := hide (And.intro hcc' (And.intro hz2 hbw))
 clear hcc hcc' hz2 hbw hb2
 go_wp2
 refine bodyPost_ret (results_cell_row rfl _ _ w.heap.size 27 #[.int .i64 d0, .int .i64 d1, .float .f64 d2, .string d3, .slice KA kl kc, .slice LA ll lc] (0, 0) _ rfl (set6_same _ _ _ _ _ _ Hend.out.2.1) Tryz.underlying27 rfl (by kernel_rfl)) rfl ?_
 exact ⟨_, rfl, (Hend.out.1.keeps fun b hb => set6_heap _ _ _ _ _ _ _ _ _ (by have := hb.1; omega)).mono fun b hb => .inr ⟨by have := hb.1; omega, by simpa using hb.2⟩, set6_below _ _ _ _ _ _ Hend.out.2.2 (Nat.le_refl _)⟩

end Go.Proofs.YtbicoknghdgahaaGreat

namespace Go.Proofs.YtbicoknghdgahaaGreat
open Go.RowKit

inductive ElemAt (F : Nat → Prop) (w : World) : REl → List Value → Prop
 | mk {kind n : Int} {s : ByteArray} {keys : List ByteArray} {l : List RV} {v : RV} {KA LA : Option Addr} {kc lc : Nat} {v0 v1 : Int} {v2 : Nat} {v3 : ByteArray} {vA vB : Option Addr} {vn vc vm vd : Nat} :
  okInt kind → s.size ≤ R47 → RVAt F w (.mk 0 0 0 ⟨#[]⟩ keys l) [.int .i64 0, .int .i64 0, .float .f64 0, .string ⟨#[]⟩, .slice KA keys.length kc, .slice LA l.length lc] →
  RVAt F w v [.int .i64 v0, .int .i64 v1, .float .f64 v2, .string v3, .slice vA vn vc, .slice vB vm vd] → okInt n →
  ElemAt F w ⟨kind, s, keys, l, v, n⟩ [.int .i64 kind, .string s, .slice KA keys.length kc, .slice LA l.length lc, .int .i64 v0, .int .i64 v1, .float .f64 v2, .string v3, .slice vA vn vc, .slice vB vm vd, .int .i64 n]
section
variable {F G : Nat → Prop} {w w' : World} {r : REl} {cs : List Value}
theorem ElemAt.keeps (h : ElemAt F w r cs) (k : Keeps F w w') : ElemAt F w' r cs := by
 cases h with
 | mk h1 h2 h3 h4 h5 => exact .mk h1 h2 (h3.keeps k) (h4.keeps k) h5
theorem ElemAt.mono (h : ElemAt F w r cs) (k : ∀ b, F b → G b) : ElemAt G w r cs := by
 cases h with
 | mk h1 h2 h3 h4 h5 => exact .mk h1 h2 (h3.mono k) (h4.mono k) h5
theorem ElemAt.at_ (h : ElemAt (Old w) w r cs) (hb : Below w.heap.size w w') : ElemAt (Old w') w' r cs := (h.keeps (Keeps.below hb fun _ h => h)).mono fun _ h => Nat.lt_of_lt_of_le h hb.size
theorem ElemAt.form (h : ElemAt F w r cs) : ∃ (k0 : Int) (k1 : ByteArray) (KA : Option Addr) (kn kc : Nat) (LA : Option Addr) (ln lc : Nat) (v0 v1 : Int) (v2 : Nat) (v3 : ByteArray) (vA : Option Addr) (vn vc : Nat) (vB : Option Addr) (vm vd : Nat) (n : Int),
  cs = [.int .i64 k0, .string k1, .slice KA kn kc, .slice LA ln lc, .int .i64 v0, .int .i64 v1, .float .f64 v2, .string v3, .slice vA vn vc, .slice vB vm vd, .int .i64 n] := by
 cases h; exact ⟨_, _, _, _, _, _, _, _, _, _, _, _, _, _, _, _, _, _, _, rfl⟩
end

def GivesPE (e : E) (w : World) (en : Ending) (w' : World) : Prop := ∃ cs : List Value, en = .returned (.agg cs.toArray) ∧ PEAt (Fr w.heap.size w') w' e cs ∧ Below w.heap.size w w'
def GivesFL (l : List (ByteArray × T)) (w : World) (en : Ending) (w' : World) : Prop := ∃ A c, en = .returned (.slice A l.length c) ∧ FLAt (Fr w.heap.size w') w' l A c ∧ Below w.heap.size w w'

theorem field_info : (Tryz.prog.info? 271).map (fun i => (i.zero, i.size, i.bytes)) = some (some (.agg #[.string ⟨#[]⟩, .nilIface]), 2, 32) := by kernel_rfl

def zipK (keys : List ByteArray) (l : List RV) (k : Nat) : List (ByteArray × T) := (keys.zip (l.map RV.tree)).take k
def TKInv (w : World) (keys : List ByteArray) (l : List RV) (B : Nat) (out ctr : Value) (wr : World) : Prop :=
 ∃ (k : Nat) (us : List Value), k ≤ keys.length ∧ ctr = .int .i64 k ∧ wr.ownsRow B 271 2 out (zipK keys l k).length us ∧ Cells 2 (FldAt (FrX B wr out) wr) (zipK keys l k) us ∧ Below w.heap.size w wr ∧ B ≤ wr.heap.size

theorem tk_step {w wr w1 w2 : World} {B n : Nat} {L : List (ByteArray × T)} {key : ByteArray} {t : T} {out out' : Value} {us : List Value} {g : Addr} {o2 : Obj} (hwB : w.heap.size ≤ B) (hown : wr.ownsRow B 271 2 out n us) (hus : Cells 2 (FldAt (FrX B wr out) wr) L us) (hb : Below w.heap.size w wr) (hB : B ≤ wr.heap.size) (hk : key.size ≤ R47)
  (hv : ValAt (Fr wr.heap.size w1) w1 t (.iface 302 (.pointer (some g)))) (hb1 : Below wr.heap.size wr w1)
  (hown2 : w2.ownsRow B 271 2 out' (n + 1) (us ++ [.string key, .iface 302 (.pointer (some g))])) (hg2 : (w1.alloc o2).grownBy w2 out.ownBlock) (hat : out'.ownBlock = out.ownBlock ∨ out'.ownBlock = some (w1.alloc o2).heap.size) :
  Cells 2 (FldAt (FrX B w2 out') w2) (L ++ [(key, t)]) (us ++ [.string key, .iface 302 (.pointer (some g))]) ∧ Below w.heap.size w w2 ∧ B ≤ w2.heap.size := by
 have s0 := hb.size
 have s1 := hb1.size
 have s2 := hg2.size
 simp only [World.size_alloc] at s2
 have hlt := hown.lt
 have k2 : Keeps (FrX B wr out) wr w2 := by
  rintro b ⟨q1, q2, q3⟩
  rw [hg2.block b (by simp only [World.size_alloc]; omega) q3, Below.heap_alloc _ _ _ (by omega), hb1.block b q2]
 have g2 : ∀ b, FrX B wr out b → FrX B w2 out' b := by
  rintro b ⟨q1, q2, q3⟩
  refine ⟨q1, by omega, ?_⟩
  rcases hat with e | e <;> rw [e]
  ·exact q3
  ·simp only [World.size_alloc, ne_eq, Option.some.injEq]; omega
 have k3 : Keeps (Fr wr.heap.size w1) w1 w2 := by
  rintro b ⟨q1, q2⟩
  rw [hg2.block b (by simp only [World.size_alloc]; omega) (fun e => by have := (hlt b e.symm).2; omega), Below.heap_alloc _ _ _ q2]
 have g3 : ∀ b, Fr wr.heap.size w1 b → FrX B w2 out' b := by
  rintro b ⟨q1, q2⟩
  refine ⟨by omega, by omega, ?_⟩
  rcases hat with e | e <;> rw [e]
  ·intro e'; have := (hlt b e'.symm).2; omega
  ·simp only [World.size_alloc, ne_eq, Option.some.injEq]; omega
 refine ⟨(hus.mono fun a cs h => (h.keeps k2).mono g2).append (Cells.one ⟨g, rfl, hk, (hv.keeps k3).mono g3⟩ rfl), ?_, by omega⟩
 exact ((hb.trans (hb1.mono s0)).alloc (by omega) o2).grown hg2 (by simp only [World.size_alloc]; omega) (fun g e => by have := (hlt g e).1; omega)

end Go.Proofs.YtbicoknghdgahaaGreat
