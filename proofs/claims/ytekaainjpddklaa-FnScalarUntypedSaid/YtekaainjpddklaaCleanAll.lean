/-
  The reference's Clean, of every value: the plain form of the tree that the value stands for. It grows the heap and changes nothing that stood.
-/
import Derived.Test.YtekaainjpddklaaSpecClean
namespace Go.Proofs.Ytekaainjpddklaa
open Go.RowKit
attribute [local go_sem] run_store_float

/-- the plain forms of the first k items stand -/
def CLInv (B : Nat) (w : World) (l : List RV) (out ctr : Value) (wr : World) : Prop :=
  ∃ (k : Nat) (us : List Value), k ≤ l.length ∧ ctr = .int .i64 k ∧ wr.ownsRow B 26 6 out k us ∧ RVs (FrX B wr out) wr ((l.take k).map fun r => r.tree.toRV) us ∧ Below B w wr

/-- one round more -/
theorem clist_step {B k : Nat} {w wr w1 w2 : World} {l : List RV} {out out' : Value} {us ccs : List Value} {o1 o2 : Obj} {r : RV} (hk : k < l.length) (hr : l[k]? = some r)
    (hown : wr.ownsRow B 26 6 out k us) (hus : RVs (FrX B wr out) wr ((l.take k).map fun r => r.tree.toRV) us) (hb : Below B w wr) (hB : w.heap.size = B)
    (hu : RVAt (fun b => False ∨ Fr (wr.alloc o1).heap.size w1 b) w1 r.tree.toRV ccs) (hb1 : Below (wr.alloc o1).heap.size (wr.alloc o1) w1)
    (hown2 : w2.ownsRow B 26 6 out' (k + 1) (us ++ ccs)) (hg : (w1.alloc o2).grownBy w2 out.ownBlock) (hat : out'.ownBlock = out.ownBlock ∨ out'.ownBlock = some (w1.alloc o2).heap.size) :
    CLInv B w l out' (.int .i64 ((k + 1 : Nat) : Int)) w2 := by
  have s0 := hb.size
  have s1 := hb1.size
  have s2 := hg.size
  simp only [World.size_alloc] at s1 s2
  have hlt := hown.lt
  have k2 : Keeps (FrX B wr out) wr w2 := by
    intro b hbb
    obtain ⟨q1, q2, q3⟩ := hbb
    rw [hg.block b (by simp only [World.size_alloc]; omega) q3, Below.heap_alloc _ _ _ (by omega), hb1.block b (by simp only [World.size_alloc]; omega), Below.heap_alloc _ _ _ q2]
  have g2 : ∀ b, FrX B wr out b → FrX B w2 out' b := by
    rintro b ⟨q1, q2, q3⟩
    refine ⟨q1, by omega, ?_⟩
    rcases hat with e | e <;> rw [e]
    · exact q3
    · simp only [World.size_alloc, ne_eq, Option.some.injEq]; omega
  have k3 : Keeps (fun b => False ∨ Fr (wr.alloc o1).heap.size w1 b) w1 w2 := by
    rintro b (hbb | hbb)
    · exact hbb.elim
    obtain ⟨q1, q2⟩ := hbb
    simp only [World.size_alloc] at q1
    rw [hg.block b (by simp only [World.size_alloc]; omega) (fun e => by have := (hlt b e.symm).2; omega), Below.heap_alloc _ _ _ q2]
  have g3 : ∀ b, (False ∨ Fr (wr.alloc o1).heap.size w1 b) → FrX B w2 out' b := by
    rintro b (hbb | ⟨q1, q2⟩)
    · exact hbb.elim
    simp only [World.size_alloc] at q1
    refine ⟨by omega, by omega, ?_⟩
    rcases hat with e | e <;> rw [e]
    · intro e'; have := (hlt b e'.symm).2; omega
    · simp only [World.size_alloc, ne_eq, Option.some.injEq]; omega
  have hr' : l[k] = r := by rw [List.getElem?_eq_getElem hk] at hr; exact Option.some.inj hr
  refine ⟨k + 1, us ++ ccs, by omega, rfl, hown2, ?_, ?_⟩
  · rw [List.take_succ_eq_append_getElem hk, List.map_append, hr']
    exact ((hus.keeps k2).mono g2).append (RVs.one ((hu.keeps k3).mono g3))
  · refine ((hb.alloc (by omega) o1).trans (hb1.mono (by simp only [World.size_alloc]; omega))).alloc (by omega) o2 |>.grown hg (by simp only [World.size_alloc]; omega) (fun g e => (hlt g e).1)

/-- the row that plainList hands back -/
def GivesRow (rs : List RV) (w : World) (e : Ending) (w' : World) : Prop :=
  ∃ A c xs, e = .returned (.slice A rs.length c) ∧ rs.length ≤ c ∧ c ≤ maxLen ∧ Row (Fr w.heap.size w') w' 6 A rs.length xs ∧ RVs (Fr w.heap.size w') w' rs xs ∧ Below w.heap.size w w'

theorem clist_end {w wr : World} {l : List RV} {out : Value} {us : List Value} (hown : wr.ownsRow w.heap.size 26 6 out l.length us) (hus : RVs (FrX w.heap.size wr out) wr (l.map fun r => r.tree.toRV) us) (hb : Below w.heap.size w wr) :
    GivesRow (l.map fun r => r.tree.toRV) w (.returned out) wr := by
  have hlt := hown.lt
  obtain ⟨A, c, rfl, h1, h2⟩ := own_form hown
  refine ⟨A, c, us, by simp, by simpa using h1, h2, ?_, hus.mono fun b hb => frx_fresh b hb, hb⟩
  rw [List.length_map]
  exact Row.of_own hown fun g hg => ⟨(hlt g (by simpa using hg)).1, (hlt g (by simpa using hg)).2⟩

set_option maxRecDepth 100000 in
set_option maxHeartbeats 1000000 in
theorem plainList_ok (l : List RV) (LA : Option Addr) (lc : Nat) (w : World) (xs : List Value) (hl : l.length * 88 ≤ R47) (ih : AllClean l)
    (hrow : Row (Old w) w 6 LA l.length xs) (hx : ∀ i r, l[i]? = some r → RVAt (Old w) w r ((xs.drop (i * 6)).take 6)) :
    Calls Try.prog 60 #[.slice LA l.length lc] w (GivesRow (l.map fun r => r.tree.toRV) w) := by
  obtain ⟨i26, hi26, hz26, hs26, hb26⟩ := info_parts val_info
  have hlb : l.length * 88 ≤ 140737488351232 := hl
  have Hl := hide hl
  have Hrow := hide hrow
  have Hx := hide hx
  clear hl hrow hx
  go_enter Try.func60, Try.ntmps60
  go_wp2_with (at_make; refine wpList_make_own _ rfl _ _ 24 rfl w.heap.size 26 i26 _ 6 Try.underlying24 hi26 hz26 hs26 _ _ _ l.length rfl rfl rfl ?b2 ?b3 ?b4 ?_)
  case b2 => rw [hb26]; omega
  case b3 => unfold maxLen; omega
  case b4 => simp
  intro w0 hown0 hgrow0
  have hb0 : Below w.heap.size w w0 := (Below.refl _ _).grown hgrow0 (by simp) (fun k h => by cases h)
  obtain ⟨hc0, hf0⟩ := gcell hgrow0
  go_wp2
  clear hc0 hf0 hgrow0
  go_loopw [3, 11] (fun out ctr wr => CLInv w.heap.size w l out ctr wr) (fun _ ctr _ => l.length - (intOf ctr).toNat)
  case atStart => exact ⟨0, [], Nat.zero_le _, rfl, hown0, RVs.nil_, hb0⟩
  case round =>
    obtain ⟨k, us, hk, rfl, hown, hus, hb⟩ := hrel
    by_cases hlt : k < l.length
    · have hgk : l[k]? = some l[k] := List.getElem?_eq_getElem hlt
      have hrk := (Hx.out k _ hgk)
      have hih := ih l[k] (List.getElem_mem hlt)
      generalize l[k] = r at hgk hrk hih
      have Hgk := hide hgk
      clear hgk ih hown0
      have hkr := hrk
      generalize hcs : (xs.drop (k * 6)).take 6 = cs at hrk hkr
      cases hrk with
      | @mk kind' n' f' s' keys' l' KA' LA' kc' lc' xs' h1 h2 h3 h4 h5 h6 h7 h8 h9 h10 h11 h12 h13 h14 =>
        clear h1 h2 h3 h4 h5 h6 h7 h8 h9 h10 h11 h12 h13 h14
        obtain ⟨b, o, rfl, hF, k0, k1, k2, k3, k4, k5⟩ := row6_at Hrow.out hlt hcs
        have Hcs := hide hcs
        clear hcs
        have hlt' := hb.block
        rw [← (bcell hb).1 _ _ hF] at k0 k1 k2 k3 k4 k5
        go_wp2_with fail
        refine (hih _ _ (hkr.keeps (Keeps.trans (Keeps.below hb fun x hx => hx) (Keeps.alloc _ _ fun x hx => Nat.lt_of_lt_of_le hx hb.size)) |>.mono (fun x hx => ?_))).mono ?_
        · simp only [Old, World.size_alloc] at hx ⊢
          have := hb.size
          omega
        rintro e w1 ⟨ccs, rfl, hcc, hb1⟩
        obtain ⟨c0, c1, c2, c3, c4, c5, rfl⟩ := hcc.six
        have hones := (RVs.one hcc).ones
        go_wp2_with (at_builtin; refine wpList_append_own_at _ rfl (.tmp 15) (.tmp 18) 24 rfl w.heap.size 26 i26 _ 6 88 Try.underlying24 hi26 hz26 hs26 hb26 rfl (by omega) _ k us rfl ((ownsRow_below (hown.alloc _) hb1 (Nat.le_refl _)).alloc _) ⟨w1.heap.size, 0, none⟩ 1 1 [c0, c1, c2, c3, c4, c5] rfl rfl (cells_at _ [c0, c1, c2, c3, c4, c5] _ _ (by simp)) ?c1 ?c2 ?c3 ?c4 ?_)
        case c1 => exact hones
        case c2 => unfold maxLen; omega
        case c3 => omega
        case c4 => have := hb.size; have := hb1.size; simp only [World.size_alloc] at *; omega
        intro out' w2 hown2 hg2 _ hat2
        have Hinv := hide (clist_step hlt Hgk.out hown hus hb rfl hcc hb1 hown2 hg2 (by rw [World.size_alloc]; exact hat2))
        clear hus hown hown2 hcc hb1 hg2 hat2 hones
        go_wp2
        go_roundw
        case rel => exact Hinv.out
        case measure => simp [intOf]; omega
    · have : k = l.length := by omega
      subst this
      go_wp2
      go_ret
      rw [List.take_length] at hus
      exact clist_end hown hus hb

/-! Clean -/
/-- a flat struct handed back from the cell behind the argument's -/
theorem clean_flat {fn : Func} {p : Tmp} (hfn : fn.results = #[.cell p 26]) (tmps : Array Value) (w : World) (o1 : Obj) (kind n : Int) (f : Nat) (s : ByteArray) {rr : RV} (hrr : rr = .mk kind n f s [] []) (h1 : okInt kind) (h2 : okInt n) (h3 : f < B64) (h4 : s.size ≤ R47)
    (hp : tmps.getD p undef = .pointer (some ⟨w.heap.size + 1, 0, none⟩)) :
    bodyPost Try.prog fn (GivesRV (fun _ => False) rr w) .ret { tmps := tmps, defers := [] } ((w.alloc o1).alloc (.cells #[.int .i64 kind, .int .i64 n, .float .f64 f, .string s, .slice none 0 0, .slice none 0 0] 26)) := by
  subst hrr
  have hB := Bk.new (w.alloc o1) 26 #[.int .i64 kind, .int .i64 n, .float .f64 f, .string s, .slice none 0 0, .slice none 0 0]
  simp only [World.size_alloc] at hB
  refine bodyPost_ret (results_cell_row hfn _ _ (w.heap.size + 1) 26 #[.int .i64 kind, .int .i64 n, .float .f64 f, .string s, .slice none 0 0, .slice none 0 0] (0, 0) _ hp hB Try.underlying26 rfl (by kernel_rfl)) rfl ?_
  exact ⟨_, rfl, RVAt.flat _ _ _ _ h1 h2 h3 h4, ((Below.refl _ _).alloc (Nat.le_refl _) _).alloc (by simp) _⟩

theorem i0 : okInt 0 := ⟨by decide, by decide⟩
theorem i1 : okInt 1 := ⟨by decide, by decide⟩
theorem i5 : okInt 5 := ⟨by decide, by decide⟩

set_option maxRecDepth 100000 in
set_option maxHeartbeats 400000 in
theorem clean_scalar (kind n : Int) (f : Nat) (s : ByteArray) (keys : List ByteArray) (l : List RV) (kv lv : Value) (w : World) (h5 : kind ≠ 5) (h6 : kind ≠ 6) (hn : okInt n) (hf : f < B64) (hs : s.size ≤ R47) :
    Calls Try.prog 17 #[.agg #[.int .i64 kind, .int .i64 n, .float .f64 f, .string s, kv, lv]] w (GivesRV (fun _ => False) (RV.mk kind n f s keys l).tree.toRV w) := by
  by_cases h1 : kind = 1
  · subst h1
    have ht : (RV.mk 1 n f s keys l).tree = .bool (n != 0) := by simp [RV.tree]
    rw [ht]
    clear hn hf hs h5 h6 ht
    by_cases hz : n = 0
    · subst hz
      go_enter Try.func17, Try.ntmps17
      go_wp2
      exact clean_flat rfl _ _ _ 1 0 0 ⟨#[]⟩ rfl i1 i0 (by decide) (by decide) rfl
    · have e0 : (n == 0) = false := by simpa using hz
      have e1 : (n != 0) = true := by simpa using hz
      go_enter Try.func17, Try.ntmps17
      go_wp2
      exact clean_flat rfl _ _ _ 1 1 0 ⟨#[]⟩ (by rw [e1]; rfl) i1 i1 (by decide) (by decide) rfl
  by_cases h2 : kind = 2
  · subst h2
    have ht : (RV.mk 2 n f s keys l).tree = .int n := by simp [RV.tree]
    rw [ht]
    have hn' := hide hn
    clear hn hf hs h5 h6 ht
    go_enter Try.func17, Try.ntmps17
    go_wp2
    exact clean_flat rfl _ _ _ 2 n 0 ⟨#[]⟩ rfl ⟨by decide, by decide⟩ hn'.out (by decide) (by decide) rfl
  by_cases h3 : kind = 3
  · subst h3
    have ht : (RV.mk 3 n f s keys l).tree = .flt f := by simp [RV.tree]
    rw [ht]
    have hf' := hide hf
    clear hn hf hs h5 h6 ht
    go_enter Try.func17, Try.ntmps17
    go_wp2
    exact clean_flat rfl _ _ _ 3 0 f ⟨#[]⟩ rfl ⟨by decide, by decide⟩ i0 hf'.out (by decide) rfl
  by_cases h4 : kind = 4
  · subst h4
    have ht : (RV.mk 4 n f s keys l).tree = .str s := by simp [RV.tree]
    rw [ht]
    have hs' := hide hs
    clear hn hf hs h5 h6 ht
    go_enter Try.func17, Try.ntmps17
    go_wp2
    exact clean_flat rfl _ _ _ 4 0 0 s rfl ⟨by decide, by decide⟩ i0 (by decide) hs'.out rfl
  have ht : (RV.mk kind n f s keys l).tree = .null := by simp [RV.tree, h1, h2, h3, h4, h5, h6]
  rw [ht]
  have e1 : (kind == 1) = false := by simpa using h1
  have e2 : (kind == 2) = false := by simpa using h2
  have e3 : (kind == 3) = false := by simpa using h3
  have e4 : (kind == 4) = false := by simpa using h4
  have e5 : (kind == 5) = false := by simpa using h5
  have e6 : (kind == 6) = false := by simpa using h6
  clear hn hf hs h1 h2 h3 h4 h5 h6 ht
  go_enter Try.func17, Try.ntmps17
  go_wp2
  exact clean_flat rfl _ _ _ 0 0 0 ⟨#[]⟩ rfl i0 i0 (by decide) (by decide) rfl

/-- the result's cell, over which six cells are stored -/
theorem clean_ret {fn : Func} {p : Tmp} (hfn : fn.results = #[.cell p 26]) (tmps : Array Value) {w w1 : World} {cs : List Value} {rr : RV} {c0 c1 c2 c3 c4 c5 a0 a1 a2 a3 a4 a5 : Value} (hR : Bk w1 (w.heap.size + 1) 26 #[a0, a1, a2, a3, a4, a5]) (hb : Below w.heap.size w w1)
    (hcs : cs = [c0, c1, c2, c3, c4, c5]) (hv : RVAt (fun b => w.heap.size + 2 ≤ b ∧ b < w1.heap.size) w1 rr cs) (hp : tmps.getD p undef = .pointer (some ⟨w.heap.size + 1, 0, none⟩)) :
    bodyPost Try.prog fn (GivesRV (fun _ => False) rr w) .ret { tmps := tmps, defers := [] } (set6 w1 (w.heap.size + 1) c0 c1 c2 c3 c4 c5) := by
  subst hcs
  refine bodyPost_ret (results_cell_row hfn _ _ (w.heap.size + 1) 26 #[c0, c1, c2, c3, c4, c5] (0, 0) _ hp (set6_same _ _ _ _ _ _ hR) Try.underlying26 rfl (by kernel_rfl)) rfl ?_
  refine ⟨_, rfl, (hv.keeps fun b hb => set6_heap _ _ _ _ _ _ _ _ _ (by have := hb.1; omega)).mono fun b hb => .inr ⟨by have := hb.1; omega, by rw [set6_size]; exact hb.2⟩, set6_below _ _ _ _ _ _ hb (by omega)⟩

set_option maxRecDepth 100000 in
set_option maxHeartbeats 400000 in
theorem clean_list (n : Int) (f : Nat) (s : ByteArray) (keys : List ByteArray) (l : List RV) (w : World) (cs : List Value) (ih : AllClean l) (hrv : RVAt (Old w) w (.mk 5 n f s keys l) cs) :
    Calls Try.prog 17 #[.agg cs.toArray] w (GivesRV (fun _ => False) (RV.mk 5 n f s keys l).tree.toRV w) := by
  have ht : (RV.mk 5 n f s keys l).tree.toRV = .mk 5 0 0 ⟨#[]⟩ [] (l.map fun r => r.tree.toRV) := by simp [RV.tree, treeL_eq, T.toRV, toRVL_eq]; rfl
  rw [ht]
  cases hrv with
  | @mk _ _ _ _ _ _ KA LA kc lc xs h1 h2 h3 h4 h5 h6 h7 h8 h9 h10 h11 hKrow hLrow hx =>
  have hpl : ∀ W : World, (∀ b, b < w.heap.size → W.heap[b]? = w.heap[b]?) → w.heap.size ≤ W.heap.size → Calls Try.prog 60 #[.slice LA l.length lc] W (GivesRow (l.map fun r => r.tree.toRV) W) := fun W k1 k2 =>
    plainList_ok l LA lc W xs h7 ih ((hLrow.keeps (w' := W) fun b hb => k1 b hb).mono fun b hb => Nat.lt_of_lt_of_le hb k2) fun i r hr => ((hx i r hr).keeps (w' := W) fun b hb => k1 b hb).mono fun b hb => Nat.lt_of_lt_of_le hb k2
  have Hpl := hide hpl
  have H7 := hide h7
  clear h1 h2 h3 h4 h5 h6 h7 h8 h9 h10 h11 hKrow hLrow hx hpl ht
  go_enter Try.func17, Try.ntmps17
  go_wp2_with fail
  refine (Hpl.out _ (fun b hb => (Below.heap_alloc _ _ _ (by simp; omega)).trans (Below.heap_alloc _ _ _ hb)) (by simp; omega)).mono ?_
  rintro e w1 ⟨A, c, xs', rfl, g1, g2, hrow, hrvs, hb1⟩
  have hB0 := Bk.new (w.alloc (.cells #[.int .i64 5, .int .i64 n, .float .f64 f, .string s, .slice KA keys.length kc, .slice LA l.length lc] 26)) 26 #[.int .i64 0, .int .i64 0, .float .f64 0, .string ⟨#[]⟩, .slice none 0 0, .slice none 0 0]
  simp only [World.size_alloc] at hB0
  have hB1 := hB0.below hb1 (by simp)
  have hbw : Below w.heap.size w w1 := (((Below.refl _ _).alloc (Nat.le_refl _) _).alloc (by simp) _).trans (hb1.mono (by simp; omega))
  have hval : RVAt (fun b => w.heap.size + 2 ≤ b ∧ b < w1.heap.size) w1 (.mk 5 0 0 ⟨#[]⟩ [] (l.map fun r => r.tree.toRV)) [.int .i64 5, .int .i64 0, .float .f64 0, .string ⟨#[]⟩, .slice none 0 0, .slice A l.length c] := by
    have hm : ∀ b, Fr ((w.alloc (.cells #[.int .i64 5, .int .i64 n, .float .f64 f, .string s, .slice KA keys.length kc, .slice LA l.length lc] 26)).alloc (.cells #[.int .i64 0, .int .i64 0, .float .f64 0, .string ⟨#[]⟩, .slice none 0 0, .slice none 0 0] 26)).heap.size w1 b → w.heap.size + 2 ≤ b ∧ b < w1.heap.size := fun b hb => ⟨by have := hb.1; simp only [World.size_alloc] at this; omega, hb.2⟩
    have hq := RVAt.mk (f := 0) (s := ⟨#[]⟩) (keys := []) (KA := none) (kc := 0) i5 i0 (by decide) (by decide) (by simp) (by simp [R47]) (by rw [List.length_map]; exact H7.out) (by simp) (by simp) g1 g2 Row.nil_ (hrow.mono hm) (hrvs.mono hm).2
    rw [List.length_map] at hq
    exact hq
  have HV := hide hval
  have HB := hide hB1
  have q0 := hB1.cell 0
  have q1 := hB1.cell 1
  have q2 := hB1.cell 2
  have q3 := hB1.cell 3
  have q4 := hB1.cell 4
  have q5 := hB1.cell 5
  have q6 : ∀ i, w1.frozen? ⟨w.heap.size + 1, i, none⟩ = false := fun i => hB1.free i
  simp at q0 q1 q2 q3 q4 q5
  have Hbw := hide hbw
  clear hB0 hB1 hval hrow hrvs hb1 hbw
  go_wp2
  exact clean_ret rfl _ HB.out Hbw.out rfl HV.out rfl

set_option maxRecDepth 100000 in
set_option maxHeartbeats 400000 in
theorem clean_map (n : Int) (f : Nat) (s : ByteArray) (keys : List ByteArray) (l : List RV) (w : World) (cs : List Value) (hm : PlainMapOK (.mk 6 n f s keys l)) (hrv : RVAt (Old w) w (.mk 6 n f s keys l) cs) :
    Calls Try.prog 17 #[.agg cs.toArray] w (GivesRV (fun _ => False) (RV.mk 6 n f s keys l).tree.toRV w) := by
  have ht : (RV.mk 6 n f s keys l).tree.toRV = fieldsRV (mapOf keys (l.map fun r => r.tree.toRV)) := by rw [← fieldsOf_toRV 6 n f s]; simp [RV.tree, RV.fieldsOf, treeL_eq]
  rw [ht]
  have hm' : ∀ (w : World) (cs : List Value), RVAt (Old w) w (.mk 6 n f s keys l) cs → Calls Try.prog 61 #[.agg cs.toArray] w (GivesRV (fun _ => False) (fieldsRV (mapOf keys (l.map fun r => r.tree.toRV))) w) := by
    have := hm
    unfold PlainMapOK at this
    rw [fieldsOf_toRV] at this
    exact this
  have Hm := hide hm'
  clear hm hm' ht
  have Hrv := hide hrv
  cases hrv with
  | @mk _ _ _ _ _ _ KA LA kc lc xs h1 h2 h3 h4 h5 h6 h7 h8 h9 h10 h11 hKrow hLrow hx =>
  clear h1 h2 h3 h4 h5 h6 h7 h8 h9 h10 h11 hKrow hLrow hx
  go_enter Try.func17, Try.ntmps17
  go_wp2_with fail
  refine (Hm.out _ _ ((Hrv.out.keeps (w' := (w.alloc (.cells #[.int .i64 6, .int .i64 n, .float .f64 f, .string s, .slice KA keys.length kc, .slice LA l.length lc] 26)).alloc (.cells #[.int .i64 0, .int .i64 0, .float .f64 0, .string ⟨#[]⟩, .slice none 0 0, .slice none 0 0] 26)) fun b hb => (Below.heap_alloc _ _ _ (Nat.lt_of_lt_of_le hb (by simp))).trans (Below.heap_alloc _ _ _ hb)).mono fun b hb => Nat.lt_of_lt_of_le hb (by simp; omega))).mono ?_
  rintro e w1 ⟨ccs, rfl, hcc, hb1⟩
  have hB0 := Bk.new (w.alloc (.cells #[.int .i64 6, .int .i64 n, .float .f64 f, .string s, .slice KA keys.length kc, .slice LA l.length lc] 26)) 26 #[.int .i64 0, .int .i64 0, .float .f64 0, .string ⟨#[]⟩, .slice none 0 0, .slice none 0 0]
  simp only [World.size_alloc] at hB0
  have hB1 := hB0.below hb1 (by simp)
  have hbw : Below w.heap.size w w1 := (((Below.refl _ _).alloc (Nat.le_refl _) _).alloc (by simp) _).trans (hb1.mono (by simp; omega))
  have hval : RVAt (fun b => w.heap.size + 2 ≤ b ∧ b < w1.heap.size) w1 (fieldsRV (mapOf keys (l.map fun r => r.tree.toRV))) ccs := hcc.mono fun b hb => by
    rcases hb with hb | hb
    · exact hb.elim
    · exact ⟨by have := hb.1; simp only [World.size_alloc] at this; omega, hb.2⟩
  obtain ⟨K2, k2, L2, l2, rfl⟩ := hcc.fields
  have HV := hide hval
  have HB := hide hB1
  have q0 := hB1.cell 0
  have q1 := hB1.cell 1
  have q2 := hB1.cell 2
  have q3 := hB1.cell 3
  have q4 := hB1.cell 4
  have q5 := hB1.cell 5
  have q6 : ∀ i, w1.frozen? ⟨w.heap.size + 1, i, none⟩ = false := fun i => hB1.free i
  simp at q0 q1 q2 q3 q4 q5
  have Hbw := hide hbw
  clear hB0 hB1 hval hcc hb1 hbw
  go_wp2
  exact clean_ret rfl _ HB.out Hbw.out rfl HV.out rfl

theorem clean_all : ∀ (m : Nat) (rv : RV), rv.rank < m → CleanOK rv
  | 0, _, h => absurd h (by omega)
  | m + 1, .mk kind n f s keys l, h => by
    have ih : AllClean l := fun r hr => clean_all m r (by have := RV.rank_lt (kind := kind) (n := n) (f := f) (s := s) (keys := keys) hr; omega)
    intro w cs hrv
    by_cases h5 : kind = 5
    · subst h5
      exact clean_list n f s keys l w cs ih hrv
    by_cases h6 : kind = 6
    · subst h6
      exact clean_map n f s keys l w cs (specPlainMap_ok 6 n f s keys l ih) hrv
    cases hrv with
    | mk h1 h2 h3 h4 _ _ _ _ _ _ _ _ _ _ => exact clean_scalar kind n f s keys l _ _ w h5 h6 h2 h3 h4

/-- spec.Clean makes of a value the plain form of the tree that it stands for. -/
theorem clean_calls (rv : RV) : CleanOK rv := clean_all _ rv (Nat.lt_succ_self _)

end Go.Proofs.Ytekaainjpddklaa
