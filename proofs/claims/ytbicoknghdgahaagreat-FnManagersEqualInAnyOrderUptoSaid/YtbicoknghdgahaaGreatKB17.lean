/- Parts: Both, Row, RowE, RowP. -/
import Derived.Test.YtbicoknghdgahaaGreatKB08
import Derived.SliceStrings
import Derived.ProofKit
import Derived.SizedLaws
import Derived.ChangeSame
import Derived.Carry
set_option linter.unusedVariables false
set_option linter.unusedSimpArgs false
namespace Go.Proofs.YtbicoknghdgahaaGreat
open Go.RowKit
attribute [local go_sem] run_store_float

theorem old_step {α : Type} {k : Nat} {Q : (Nat → Prop) → World → α → List Value → Prop} (qk : ∀ {F : Nat → Prop} {w w' : World} {a : α} {cs : List Value}, Q F w a cs → Keeps F w w' → Q F w' a cs)
  {w V W3 : World} {ls add : List α} {us news : List Value} {row : Option Nat} (hc : Cells k (Q (Old w) V) ls us) (hb : Below w.heap.size w V) (hlo : ∀ b, row = some b → w.heap.size ≤ b) (hg : V.grownBy W3 row) (hadd : Cells k (Q (Old w) V) add news) :
  Cells k (Q (Old w) W3) (ls ++ add) (us ++ news) ∧ Below w.heap.size w W3 := by
 have hk : Keeps (Old w) V W3 := fun b hb' => hg.block b (Nat.lt_of_lt_of_le hb' hb.size) fun e => by have h1 := hlo b e.symm; have hb' : b < w.heap.size := hb'; omega
 exact ⟨Cells.append (hc.mono fun _ _ h => qk h hk) (hadd.mono fun _ _ h => qk h hk), hb.grown hg hb.size hlo⟩

end Go.Proofs.YtbicoknghdgahaaGreat

namespace Go.Proofs.YtbicoknghdgahaaGreat
open Go.RowKit Go.ChangeShapes Go.WideShapes

theorem cell_spot {w : World} {a : Addr} {v : Value} (h : w.cell? a = some v) : a = ⟨a.block, a.off, none⟩ ∧ a.block < w.heap.size := by
 obtain ⟨b, o, s⟩ := a
 unfold World.cell? at h
 simp only at h
 split at h
 ·rename_i hb
  cases s with
  | none => exact ⟨rfl, (Array.getElem?_eq_some_iff.1 hb).1⟩
  | some s => simp at h
 ·cases h

theorem flat_get {α : Type} {size : Nat} (hs : 0 < size) : ∀ (L : List (List α)) (_ : ∀ x ∈ L, x.length = size) (j : Nat), L.flatten[j]? = (L[j / size]?).bind (·[j % size]?)
 | [], _, j => by simp
 | x :: L, h, j => by
  have hx := h x (by simp)
  rw [List.flatten_cons]
  rcases Nat.lt_or_ge j size with hj | hj
  ·rw [List.getElem?_append_left (by omega), Nat.div_eq_of_lt hj, Nat.mod_eq_of_lt hj]; simp
  ·rw [List.getElem?_append_right (by omega), flat_get hs L (fun y hy => h y (by simp [hy])) (j - x.length), hx]
   have e1 : j / size = (j - size) / size + 1 := by rw [Nat.div_eq_sub_div hs hj]
   have e2 : j % size = (j - size) % size := by rw [Nat.mod_eq_sub_mod hj]
   rw [e1, e2]; simp

theorem flat_part {α : Type} {size : Nat} (hs : 0 < size) (L : List (List α)) (h : ∀ x ∈ L, x.length = size) (i : Nat) (x : List α) (hi : L[i]? = some x) : (L.flatten.drop (i * size)).take size = x := by
 have hx : x.length = size := h x (List.mem_of_getElem? hi)
 apply List.ext_getElem?
 intro j
 rw [List.getElem?_take]
 split
 ·rename_i hj
  rw [List.getElem?_drop, flat_get hs L h]
  have e1 : (i * size + j) / size = i := by rw [Nat.mul_comm, Nat.mul_add_div hs, Nat.div_eq_of_lt hj]; simp
  have e2 : (i * size + j) % size = j := by rw [Nat.mul_comm, Nat.mul_add_mod, Nat.mod_eq_of_lt hj]
  rw [e1, e2, hi]; simp
 ·rename_i hj
  rw [List.getElem?_eq_none (by omega)]

theorem row_open {w : World} {size len : Nat} {a : Addr} {L : List (List Value)} (hs : 0 < size) (hl : L.length = len) (hsz : ∀ x ∈ L, x.length = size) (hc : ∀ i x, L[i]? = some x → ∀ j, j < size → w.cell? (a.add (i * size + j)) = x[j]?) :
  Row (Old w) w size (some a) len L.flatten := by
 refine ⟨?_, fun hpos => ?_⟩
 ·subst hl
  clear hc
  induction L with
  | nil => simp
  | cons x L ih => rw [List.flatten_cons, List.length_append, hsz x (by simp), ih (fun y hy => hsz y (by simp [hy]))]; simp [Nat.add_mul]; omega
 ·have h0 : ∃ x, L[0]? = some x := ⟨L[0]'(by omega), List.getElem?_eq_getElem _⟩
  obtain ⟨x, hx⟩ := h0
  have h1 := hc 0 x hx 0 hs
  have hxl := hsz x (List.mem_of_getElem? hx)
  rw [List.getElem?_eq_getElem (by omega)] at h1
  have h2 := cell_spot h1
  simp only [Nat.zero_mul, Nat.add_zero, Addr.add, if_true] at h2
  obtain ⟨h2, h3⟩ := h2
  refine ⟨a.block, a.off, by rw [← h2], h3, fun j u hu => ?_⟩
  rw [flat_get hs L hsz] at hu
  obtain ⟨y, hy, hu⟩ := Option.bind_eq_some_iff.1 hu
  have h4 := hc (j / size) y hy (j % size) (Nat.mod_lt _ hs)
  rw [hu, Nat.mul_comm, Nat.div_add_mod] at h4
  rw [← h4]
  unfold Addr.add
  split
  ·rename_i e; rw [h2, e]; simp
  ·rfl

section
variable {H : Type} {enc : TypeId × Value → H} {w : World}

theorem okInt_of_wf {n : Int} (h : (Lit.int .i64 n).wf = true) : okInt n := by
 simp only [Lit.wf, Bool.and_eq_true, decide_eq_true_eq] at h
 exact h

def Small (t : TypeId) (d : DataW H) : Prop := ∀ x ∈ DataW.weights Tryz.prog t d, x ≤ R47
def SmallAll (t : TypeId) (ds : List (DataW H)) : Prop := ∀ x ∈ DataW.weightsAll Tryz.prog t ds, x ≤ R47
def SmallEach (ts : List TypeId) (ds : List (DataW H)) : Prop := ∀ x ∈ DataW.weightsEach Tryz.prog ts ds, x ≤ R47
theorem smallEach_of {ts : List TypeId} {ds : List (DataW H)} (h : (DataW.weightsEach Tryz.prog ts ds).all (· ≤ reachBytes) = true) : SmallEach ts ds := fun x hx => by
 exact of_decide_eq_true (List.all_eq_true.1 h x hx)
theorem SmallEach.part : ∀ {ts : List TypeId} {ds : List (DataW H)} (_ : SmallEach ts ds) (i : Nat) {t : TypeId} {d : DataW H}, ts[i]? = some t → ds[i]? = some d → Small t d
 | [], _, _, i, t, d, h1, _ => by simp at h1
 | _ :: _, [], _, i, t, d, _, h2 => by simp at h2
 | t0 :: ts, d0 :: ds, h, 0, t, d, h1, h2 => by
  simp only [List.getElem?_cons_zero, Option.some.injEq] at h1 h2
  subst h1; subst h2
  exact fun x hx => h x (by unfold DataW.weightsEach; exact List.mem_append_left _ hx)
 | t0 :: ts, d0 :: ds, h, i + 1, t, d, h1, h2 =>
  SmallEach.part (ts := ts) (ds := ds) (fun x hx => h x (by unfold DataW.weightsEach; exact List.mem_append_right _ hx)) i (by simpa using h1) (by simpa using h2)
theorem SmallAll.part {t : TypeId} : ∀ {ds : List (DataW H)} (_ : SmallAll t ds) {d : DataW H}, d ∈ ds → Small t d
 | [], _, d, h => by cases h
 | d0 :: ds, h, d, hd => by
  rcases List.mem_cons.1 hd with rfl | hd
  ·exact fun x hx => h x (by unfold DataW.weightsAll; exact List.mem_append_left _ hx)
  ·exact SmallAll.part (ds := ds) (fun x hx => h x (by unfold DataW.weightsAll; exact List.mem_append_right _ hx)) hd
theorem Small.str {t : TypeId} {s : ByteArray} (h : Small (H := H) t (.lit (.string s.data.toList))) : s.size ≤ R47 := by
 have := h s.data.toList.length (by unfold DataW.weights; exact List.mem_cons_self)
 rw [show s.size = s.data.toList.length from by rw [ByteArray.size, Array.length_toList]]
 exact this
theorem Small.struct {t : TypeId} {fs : Array Field} {parts : List (DataW H)} (hu : Tryz.prog.underlying t = some (.struct fs)) (h : Small t (.agg parts)) : SmallEach (fs.toList.map (·.type)) parts := fun x hx => h x (by unfold DataW.weights; rw [hu]; exact hx)
theorem Small.slice {t e : TypeId} {elems spare : List (DataW H)} (hu : Tryz.prog.underlying t = some (.slice e)) (h : Small t (.slice elems spare)) : (elems.length + spare.length) * Tryz.prog.bytesOf e ≤ R47 ∧ SmallAll e elems :=
 ⟨h _ (by unfold DataW.weights; rw [hu]; exact List.mem_cons_self), fun x hx => h x (by unfold DataW.weights; rw [hu]; exact List.mem_cons_of_mem _ (List.mem_append_left _ hx))⟩

theorem open_struct {t : TypeId} {fs : Array Field} {l : List (TypeId × Nat × Nat)} {fuel : Nat} {cs : List Value} {d : DataW H} {ps : List MemPlace} (hu : Tryz.prog.underlying t = some (.struct fs)) (hl : fs.toList.map (fun f => (f.type, f.offset, Tryz.prog.cellsOf f.type)) = l)
  (h : DataW.trod enc Tryz.prog w 0 (fun _ => true) true fuel t cs = some (d, ps)) :
  ∃ (xs : List (DataW H × List MemPlace)) (n : Nat), fuel = n + 1 ∧ d = .agg (xs.map (·.1)) ∧ cs.length = Tryz.prog.cellsOf t ∧ xs.length = l.length ∧
   ∀ (i : Nat) (t' : TypeId) (o c : Nat), l[i]? = some (t', o, c) → DataW.trod enc Tryz.prog w 0 (fun _ => true) true n t' ((cs.drop o).take c) = xs[i]? := by
 obtain ⟨xs, n, h1, hx, hlen, hlx, hf⟩ := DataW.trod_struct hu h
 refine ⟨xs, n, h1, congrArg Prod.fst hx, hlen, by rw [hlx, ← hl]; simp, fun i t' o c hi => ?_⟩
 rw [← hl, List.getElem?_map] at hi
 obtain ⟨f, hf1, hf2⟩ := Option.map_eq_some_iff.1 hi
 have := hf i f (by simpa using hf1)
 simp only [Prod.mk.injEq] at hf2
 obtain ⟨rfl, rfl, rfl⟩ := hf2
 exact this

theorem open_slice {t e : TypeId} {size bytes : Nat} {fuel : Nat} {cs : List Value} {d : DataW H} {ps : List MemPlace} (hu : Tryz.prog.underlying t = some (.slice e)) (hsz : Tryz.prog.cellsOf e = size) (hby : Tryz.prog.bytesOf e = bytes) (hpos : 0 < size)
  (h : DataW.trod enc Tryz.prog w 0 (fun _ => true) true fuel t cs = some (d, ps)) (hw : Small t d) :
  ∃ (A : Option Addr) (len cap n : Nat) (L : List (List Value)), fuel = n + 1 ∧ cs = [.slice A len cap] ∧ len ≤ cap ∧ cap ≤ maxLen ∧ len * bytes ≤ R47 ∧ L.length = len ∧ Row (Old w) w size A len L.flatten ∧ (∀ x ∈ L, x.length = size) ∧
   ∀ (i : Nat) (x : List Value), L[i]? = some x → ∃ d' p', DataW.trod enc Tryz.prog w 0 (fun _ => true) true n e x = some (d', p') ∧ Small e d' := by
 obtain ⟨n0, rfl⟩ : ∃ n0, fuel = n0 + 1 := by
  cases fuel with
  | zero => simp [DataW.trod] at h
  | succ n => exact ⟨n, rfl⟩
 rcases DataW.trod_slice hu h with ⟨rfl, hx⟩ | ⟨a, len, cap, elems, rest, n, hn, rfl, hx, hb, hl, hm, hlen, hel, hsp⟩
 ·exact ⟨none, 0, 0, n0, [], rfl, rfl, Nat.le_refl _, by decide, by simp, rfl, Row.nil_, by simp, by simp⟩
 have hd : d = .slice (elems.map (·.1)) (rest.map (·.1)) := congrArg Prod.fst hx
 subst hd
 obtain ⟨w1, w2⟩ := hw.slice hu
 rw [hby] at w1
 simp only [List.length_map, hlen] at w1
 have hall : ∀ i, i < len → ∃ x, (∃ p, elems[i]? = some p ∧ w.cells? 0 (a.add (i * size)) size = some x ∧ DataW.trod enc Tryz.prog w 0 (fun _ => true) true n e x = some p) := by
  intro i hi
  have := hel i hi
  rw [List.getElem?_eq_getElem (by omega), hsz] at this
  obtain ⟨x, hx1, hx2⟩ := Option.bind_eq_some_iff.1 this
  exact ⟨x, _, List.getElem?_eq_getElem (by omega), hx1, hx2⟩
 obtain ⟨f, hf⟩ := Deep.choose_lt hall
 have hL : ∀ i x, ((List.range len).map f)[i]? = some x → i < len ∧ x = f i := by
  intro i x hi
  rw [List.getElem?_map] at hi
  obtain ⟨j, hj, rfl⟩ := Option.map_eq_some_iff.1 hi
  obtain ⟨hj1, hj2⟩ := List.getElem?_eq_some_iff.1 hj
  simp at hj1 hj2
  subst hj2
  exact ⟨hj1, rfl⟩
 have hsz' : ∀ x ∈ (List.range len).map f, x.length = size := by
  intro x hx
  obtain ⟨i, hi, rfl⟩ := List.mem_map.1 hx
  obtain ⟨p, _, h2, _⟩ := hf i (List.mem_range.1 hi)
  exact (World.cells?_some h2).2.1
 refine ⟨some a, len, cap, n, (List.range len).map f, by omega, rfl, hl, hm, ?_, by simp, ?_, hsz', ?_⟩
 ·exact Nat.le_trans (Nat.mul_le_mul_right _ (by omega)) w1
 ·refine row_open hpos (by simp) hsz' fun i x hi j hj => ?_
  obtain ⟨hi1, rfl⟩ := hL i x hi
  obtain ⟨p, _, h2, _⟩ := hf i hi1
  have := (World.cells?_some h2).2.2 j hj
  rw [Deep.add_add] at this
  exact this
 ·intro i x hi
  obtain ⟨hi1, rfl⟩ := hL i x hi
  obtain ⟨p, h1, _, h3⟩ := hf i hi1
  exact ⟨p.1, p.2, h3, w2.part (List.mem_map.2 ⟨p, List.mem_of_getElem? h1, rfl⟩)⟩

theorem open_keys {fuel : Nat} {cs : List Value} {d : DataW H} {ps : List MemPlace} (h : DataW.trod enc Tryz.prog w 0 (fun _ => true) true fuel 24 cs = some (d, ps)) (hw : Small 24 d) :
  ∃ (A : Option Addr) (keys : List ByteArray) (c : Nat), cs = [.slice A keys.length c] ∧ keys.length ≤ c ∧ c ≤ maxLen ∧ keys.length * 16 ≤ R47 ∧ (∀ k ∈ keys, k.size ≤ R47) ∧ Row (Old w) w 1 A keys.length (keys.map Value.string) := by
 obtain ⟨A, len, cap, n, L, rfl, rfl, h1, h2, h3, h4, h5, h6, h7⟩ := open_slice (size := 1) (bytes := 16) Tryz.underlying24 (by kernel_rfl) (by kernel_rfl) (by decide) h hw
 have hex : ∃ keys : List ByteArray, keys.length = len ∧ L.flatten = keys.map Value.string ∧ ∀ k ∈ keys, k.size ≤ R47 := by
  clear h5 h3 h1 h hw
  subst h4
  induction L with
  | nil => exact ⟨[], rfl, rfl, by simp⟩
  | cons x L ih =>
   obtain ⟨keys, k1, k2, k3⟩ := ih (fun y hy => h6 y (by simp [hy])) fun i y hi => h7 (i + 1) y (by simpa using hi)
   obtain ⟨d', p', h8, h9⟩ := h7 0 x rfl
   obtain ⟨s, rfl, hs2, _⟩ := DataW.trod_string Tryz.underlying9 h8
   have hs3 : d' = .lit (.string s.data.toList) := congrArg Prod.fst hs2
   subst hs3
   refine ⟨s :: keys, by simp [k1], by simp [k2], fun k hk => ?_⟩
   rcases List.mem_cons.1 hk with rfl | hk
   ·exact h9.str
   ·exact k3 k hk
 obtain ⟨keys, k1, k2, k3⟩ := hex
 subst k1
 rw [k2] at h5
 exact ⟨A, keys, cap, rfl, h1, h2, h3, k3, h5⟩

theorem trod_float0 {P : Program} {sp : Nat → Bool} {hd : Bool} {t : TypeId} {k : FloatKind} {fuel : Nat} {cs : List Value} {x : DataW H × List MemPlace} (ht : P.underlying t = some (.float k)) (h : DataW.trod enc P w 0 sp hd fuel t cs = some x) : ∃ f, cs = [.float k f] ∧ (Lit.float k f).wf = true := by
 cases fuel with
 | zero => simp [DataW.trod] at h
 | succ n =>
  unfold DataW.trod at h
  rw [ht] at h
  split at h <;> simp_all
theorem trod_float64 {P : Program} {sp : Nat → Bool} {hd : Bool} {t : TypeId} {fuel : Nat} {cs : List Value} {x : DataW H × List MemPlace} (ht : P.underlying t = some (.float .f64)) (h : DataW.trod enc P w 0 sp hd fuel t cs = some x) : ∃ f, cs = [.float .f64 f] ∧ f < B64 := by
 obtain ⟨f, h1, h2⟩ := trod_float0 ht h
 exact ⟨f, h1, of_decide_eq_true h2⟩

set_option maxRecDepth 100000 in
theorem open_value : ∀ (m fuel : Nat) (cs : List Value) (d : DataW H) (ps : List MemPlace), fuel < m → DataW.trod enc Tryz.prog w 0 (fun _ => true) true fuel 27 cs = some (d, ps) → Small 27 d → ∃ rv, RVAt (Old w) w rv cs
 | 0, _, _, _, _, hm, _, _ => absurd hm (by omega)
 | m + 1, fuel, cs, d, ps, hm, h, hw => by
  obtain ⟨xs, n, rfl, rfl, hl, hlen, hf⟩ := open_struct (l := [(3, 0, 1), (2, 1, 1), (25, 2, 1), (9, 3, 1), (24, 4, 1), (23, 5, 1)]) Tryz.underlying27 (by kernel_rfl) h
  have hws := hw.struct Tryz.underlying27
  rw [show Tryz.prog.cellsOf 27 = 6 from by kernel_rfl] at hl
  obtain ⟨u0, u1, u2, u3, u4, u5, rfl⟩ : ∃ u0 u1 u2 u3 u4 u5, cs = [u0, u1, u2, u3, u4, u5] := by
   match cs, hl with
   | [u0, u1, u2, u3, u4, u5], _ => exact ⟨u0, u1, u2, u3, u4, u5, rfl⟩
  obtain ⟨y0, y1, y2, y3, y4, y5, rfl⟩ : ∃ y0 y1 y2 y3 y4 y5, xs = [y0, y1, y2, y3, y4, y5] := by
   match xs, hlen with
   | [y0, y1, y2, y3, y4, y5], _ => exact ⟨y0, y1, y2, y3, y4, y5, rfl⟩
  have g0 := hf 0 _ _ _ rfl
  have g1 := hf 1 _ _ _ rfl
  have g2 := hf 2 _ _ _ rfl
  have g3 := hf 3 _ _ _ rfl
  have g4 := hf 4 _ _ _ rfl
  have g5 := hf 5 _ _ _ rfl
  simp only [List.drop_succ_cons, List.drop_zero, List.take_succ_cons, List.take_zero, List.getElem?_cons_succ, List.getElem?_cons_zero] at g0 g1 g2 g3 g4 g5
  have w3 := hws.part 3 (d := y3.1) rfl rfl
  have w4 := hws.part 4 (d := y4.1) rfl rfl
  have w5 := hws.part 5 (d := y5.1) rfl rfl
  obtain ⟨n0, e0, -, o0⟩ := DataW.trod_int Tryz.underlying3 g0
  obtain ⟨n1, e1, -, o1⟩ := DataW.trod_int Tryz.underlying2 g1
  obtain ⟨f2, e2, o2⟩ := trod_float64 Tryz.underlying25 g2
  obtain ⟨s3, e3, x3, -⟩ := DataW.trod_string Tryz.underlying9 g3
  obtain ⟨KA, keys, kc, e4, k1, k2, k3, k4, k5⟩ := open_keys (d := y4.1) (ps := y4.2) g4 w4
  obtain ⟨LA, len, lc, n', L, rfl, e5, l1, l2, l3, l4, l5, l6, l7⟩ := open_slice (size := 6) (bytes := 88) (d := y5.1) (ps := y5.2) Tryz.underlying23 (by kernel_rfl) (by kernel_rfl) (by decide) g5 w5
  rw [x3] at w3
  simp only [List.cons.injEq, and_true] at e0 e1 e2 e3 e4 e5
  subst e0; subst e1; subst e2; subst e3; subst e4; subst e5
  have hall : ∀ i, i < len → ∃ r : RV, ∀ x, L[i]? = some x → RVAt (Old w) w r x := by
   intro i hi
   obtain ⟨x, hx⟩ : ∃ x, L[i]? = some x := ⟨_, List.getElem?_eq_getElem (by omega)⟩
   obtain ⟨d', p', h8, h9⟩ := l7 i x hx
   obtain ⟨r, hr⟩ := open_value m n' x d' p' (by omega) h8 h9
   refine ⟨r, fun y hy => ?_⟩
   rw [hx] at hy
   exact Option.some.inj hy ▸ hr
  have : Inhabited RV := ⟨.mk 0 0 0 ⟨#[]⟩ [] []⟩
  obtain ⟨f, hf'⟩ := Deep.choose_lt hall
  subst l4
  have hll : ((List.range L.length).map f).length = L.length := by simp
  refine ⟨.mk n0 n1 f2 s3 keys ((List.range L.length).map f), ?_⟩
  have := RVAt.mk (F := Old w) (w := w) (l := (List.range L.length).map f) (okInt_of_wf o0) (okInt_of_wf o1) o2 w3.str k4 k3 (by rw [hll]; exact l3) k1 k2 (by rw [hll]; exact l1) l2 k5 (by rw [hll]; exact l5) ?_
  ·rw [hll] at this
   exact this
  ·intro i r hr
   rw [List.getElem?_map] at hr
   obtain ⟨j, hj, rfl⟩ := Option.map_eq_some_iff.1 hr
   obtain ⟨hj1, hj2⟩ := List.getElem?_eq_some_iff.1 hj
   simp at hj1 hj2
   subst hj2
   have hx : L[i]? = some L[i] := List.getElem?_eq_getElem hj1
   rw [flat_part (by decide) L l6 i _ hx]
   exact hf' i hj1 _ hx

end
end Go.Proofs.YtbicoknghdgahaaGreat

namespace Go.Proofs.YtbicoknghdgahaaGreat
open Go.ChangeShapes Go.WideShapes Go.ChangeAt Go.RowKit

section
variable {H : Type} {enc : TypeId × Value → H} {P : Program}
theorem stays_all (hl : laidOutB P = true) {W W' : World} (hb : Below W.heap.size W W') {sp : Nat → Bool} : ∀ (ts : List TypeId) (vs : List Value) (ds : List (DataW H)) (ps : List MemPlace), (∀ t ∈ ts, P.readableRec t = true ∧ t < P.types.size) →
  DataW.TrodAll enc P W 0 (fun _ => true) true ts vs ds ps → (∀ x ∈ ps, x.block < W.heap.size) → (∀ x ∈ ps, sp x.block = true) → DataW.TrodAll enc P W' 0 sp true ts vs ds ps
 | [], [], [], ps, _, h, _, _ => h
 | [], [], _ :: _, _, _, h, _, _ => by simp [DataW.TrodAll] at h
 | [], _ :: _, _, _, _, h, _, _ => by simp [DataW.TrodAll] at h
 | _ :: _, [], _, _, _, h, _, _ => by simp [DataW.TrodAll] at h
 | _ :: _, _ :: _, [], _, _, h, _, _ => by simp [DataW.TrodAll] at h
 | t :: ts, v :: vs, d :: ds, ps, hr, h, hlt, hsp => by
  obtain ⟨p, q, h1, h2, rfl⟩ := h
  have ht := hr t (by simp)
  refine ⟨p, q, WideElems.Trod_stays hl ht.1 ht.2 h1 (fun x hx => hb.same (hlt x (List.mem_append_left _ hx))) (fun x hx => hsp x (List.mem_append_left _ hx)), ?_, rfl⟩
  exact stays_all hl hb ts vs ds q (fun t' ht' => hr t' (by simp [ht'])) h2 (fun x hx => hlt x (List.mem_append_right _ hx)) fun x hx => hsp x (List.mem_append_right _ hx)

theorem trodAll_len {w : World} {base : Nat} {sp : Nat → Bool} {hd : Bool} : ∀ {ts : List TypeId} {vs : List Value} {ds : List (DataW H)} {ps : List MemPlace}, DataW.TrodAll enc P w base sp hd ts vs ds ps → vs.length = ts.length ∧ ds.length = ts.length
 | [], _, _, _, h => by
  obtain ⟨rfl, rfl, _⟩ := trodAll_nil h
  exact ⟨rfl, rfl⟩
 | _ :: _, _, _, _, h => by
  obtain ⟨v, vs1, d, ds1, a, b, rfl, rfl, rfl, _, h2⟩ := trodAll_cons h
  have := trodAll_len h2
  simp [this.1, this.2]

theorem post_true {f : Func} {s : ChangeSpec} {apart fresh handsOn again : Bool} {W W' : World} {args : Array Value} {ds gs : List (DataW H)} {before : List MemPlace} {tb : TypeId} (hl : laidOutB P = true) (hrd : ∀ t ∈ f.params.toList, P.readableRec t = true ∧ t < P.types.size)
  (hres : f.resultTypes = #[tb]) (hub : P.underlying tb = some .bool) (hvars : s.vars = []) (hfn : s.fn H (ds ++ gs) = { results := [.lit (.bool true)], args := ds })
  (hW : DataW.Whole enc P f.params.toList s.vars apart W args.toList ds gs before) (hb : Below W.heap.size W W') :
  s.post enc P f apart fresh handsOn again W args (.bool true) W' := by
 have hlt : ∀ p ∈ before, p.block < W.heap.size := fun p hp => hW.lt p hp
 have hold : ∀ p ∈ before, (fun b => decide (b < W.heap.size)) p.block = true := fun p hp => by simpa using hlt p hp
 have hW0 := hW
 obtain ⟨p, q, hA, hV, hpq, hz, hn⟩ := hW0
 rw [hvars] at hV
 obtain ⟨rfl, rfl⟩ := trodVars_none hV
 rw [List.append_nil] at hpq
 subst hpq
 have hargs : ∀ sp : Nat → Bool, (∀ x ∈ before, sp x.block = true) → DataW.TrodAll enc P W' 0 sp true f.params.toList args.toList ds before := fun sp hsp => stays_all hl hb _ _ _ _ hrd hA hlt hsp
 have hbool : ∀ (b : Nat) (sp : Nat → Bool) (hd : Bool), DataW.TrodAll enc P W' b sp hd f.resultTypes.toList ((Value.bool true).resultList f.resultTypes.size) [.lit (.bool true)] [] := fun b sp hd => by
  rw [hres]; exact trodAll_mk1 (shut_bool hub true)
 have hvv : ∀ sp : Nat → Bool, DataW.TrodVars enc P W' sp s.vars (s.fn H (ds ++ [])).vars [] := fun sp => by rw [hvars, hfn]; rfl
 refine ⟨ds, [], before, [], before, [], hW, ?_, ?_, hvv _, World.keptBut_mono (fun p hp => ⟨hp, .inr (.inl hp)⟩) (hb.frame (· ∈ before)), fun _ => ?_⟩
 ·rw [hfn]; exact hbool _ _ _
 ·rw [hfn]; exact hargs _ hold
 ·refine ⟨ok_one hres rfl (okWide_bool_mk hub true), _, _, ([] ++ before) ++ [], ⟨[] ++ before, [], trodAll_append (hargs _ (fun _ _ => rfl)) (hbool 0 (fun _ => true) true), hvv _, rfl, ?_, ?_⟩, ?_⟩
  ·intro b off hp
   have hin : MemPlace.cell b off ∈ before := by simpa using hp
   rw [hb.frozen (hlt _ hin)]
   exact hz b off hin
  ·intro ha
   simpa using hn ha
  ·intro p hp _
   simpa using hp
end

set_option maxRecDepth 100000 in
theorem lift_true {os : Os} {f : FuncId} {fn : Func} {s : ChangeSpec} {conds : List PathCond} {H : Type} {enc : TypeId × Value → H} {apart fresh handsOn again : Bool} (started : os.Started) (own : ownKnob Tryz.prog.godebug = none) (hl : laidOutB Tryz.prog = true)
  (noInit : Tryz.prog.inits.idxOf? f = none) (hfunc : Tryz.prog.funcs[f]? = some fn) (hrd : ∀ t ∈ fn.params.toList, Tryz.prog.readableRec t = true ∧ t < Tryz.prog.types.size) (hres : fn.resultTypes = #[4]) (hvars : s.vars = [])
  (hfn : ∀ ds : List (DataW H), ds.length = fn.params.size → s.fn H ds = { results := [.lit (.bool true)], args := ds })
  (witness : ∃ (w : World) (tape : Tape) (i : Input), w.os = os ∧ (w.forCall tape i).Shaped Tryz.prog ∧ i.vars = [] ∧ Input.okWide Tryz.prog (w.forCall tape i) .any w.heap.size f i ∧
   s.pre6 enc Tryz.prog fn conds apart (w.forCall tape i).memory i.args ∧ ({} : Assume).holds Tryz.prog (lone (Frame.enter Tryz.prog f i.args .normal) [] (w.forCall tape i)))
  (hcalls : ∀ (W : World) (base : Nat) (args : Array Value) (ds : List (DataW H)) (ps : List MemPlace), (∀ (j : Nat) t v, fn.params[j]? = some t → args[j]? = some v → Value.okWide Tryz.prog W .any base t v) → DataW.TrodAll enc Tryz.prog W 0 (fun _ => true) true fn.params.toList args.toList ds ps →
   SmallEach fn.params.toList ds → Calls Tryz.prog f args W fun e W' => e = .returned (.bool true) ∧ Below W.heap.size W W') :
  ReturnsInHanded {} Tryz.checked os f .any (s.pre6 enc Tryz.prog fn conds apart) (s.post enc Tryz.prog fn apart fresh handsOn again) := by
 refine returnsInHanded_of_change_sized (C := Tryz.checked) own started noInit hfunc witness ?_
 intro W base args ds gs before hval hW _ hsz _
 have hW0 := hW
 obtain ⟨p, q, hA, hV, hpq, hz, hn⟩ := hW0
 rw [hvars] at hV
 obtain ⟨rfl, rfl⟩ := trodVars_none hV
 have hvt : s.plain.varTypes Tryz.checked.prog = [] := by
  unfold DataSpec.varTypes
  rw [show s.plain.vars = [] from hvars]
  rfl
 rw [hvt, List.append_nil, List.append_nil] at hsz
 have hlen : ds.length = fn.params.size := by
  have := trodAll_len hA
  simpa using this.2
 refine (hcalls W base args ds p hval hA (smallEach_of hsz)).mono ?_
 rintro e W' ⟨rfl, hb⟩
 exact ⟨_, rfl, post_true hl hrd hres Tryz.underlying4 hvars (by rw [List.append_nil]; exact hfn ds hlen) hW hb⟩

end Go.Proofs.YtbicoknghdgahaaGreat

namespace Go.Proofs.YtbicoknghdgahaaGreat
open Go.RowKit Go.ChangeShapes Go.WideShapes

section
variable {H : Type} {enc : TypeId × Value → H} {w : World}

theorem open_values {fuel : Nat} {cs : List Value} {d : DataW H} {ps : List MemPlace} (h : DataW.trod enc Tryz.prog w 0 (fun _ => true) true fuel 23 cs = some (d, ps)) (hw : Small 23 d) :
  ∃ (A : Option Addr) (l : List RV) (c : Nat) (xs : List Value), cs = [.slice A l.length c] ∧ l.length ≤ c ∧ c ≤ maxLen ∧ l.length * 88 ≤ R47 ∧ Row (Old w) w 6 A l.length xs ∧ ∀ i r, l[i]? = some r → RVAt (Old w) w r ((xs.drop (i * 6)).take 6) := by
 obtain ⟨LA, len, lc, n', L, rfl, rfl, l1, l2, l3, l4, l5, l6, l7⟩ := open_slice (size := 6) (bytes := 88) Tryz.underlying23 (by kernel_rfl) (by kernel_rfl) (by decide) h hw
 have hall : ∀ i, i < len → ∃ r : RV, ∀ x, L[i]? = some x → RVAt (Old w) w r x := by
  intro i hi
  obtain ⟨x, hx⟩ : ∃ x, L[i]? = some x := ⟨_, List.getElem?_eq_getElem (by omega)⟩
  obtain ⟨d', p', h8, h9⟩ := l7 i x hx
  obtain ⟨r, hr⟩ := open_value (n' + 1) n' x d' p' (by omega) h8 h9
  refine ⟨r, fun y hy => ?_⟩
  rw [hx] at hy
  exact Option.some.inj hy ▸ hr
 have : Inhabited RV := ⟨.mk 0 0 0 ⟨#[]⟩ [] []⟩
 obtain ⟨f, hf'⟩ := Deep.choose_lt hall
 subst l4
 have hll : ((List.range L.length).map f).length = L.length := by simp
 refine ⟨LA, (List.range L.length).map f, lc, L.flatten, by rw [hll], by rw [hll]; exact l1, l2, by rw [hll]; exact l3, by rw [hll]; exact l5, ?_⟩
 intro i r hr
 rw [List.getElem?_map] at hr
 obtain ⟨j, hj, rfl⟩ := Option.map_eq_some_iff.1 hr
 obtain ⟨hj1, hj2⟩ := List.getElem?_eq_some_iff.1 hj
 simp at hj1 hj2
 subst hj2
 have hx : L[i]? = some L[i] := List.getElem?_eq_getElem hj1
 rw [flat_part (by decide) L l6 i _ hx]
 exact hf' i hj1 _ hx

set_option maxRecDepth 100000 in
theorem open_elem {fuel : Nat} {cs : List Value} {d : DataW H} {ps : List MemPlace} (h : DataW.trod enc Tryz.prog w 0 (fun _ => true) true fuel 29 cs = some (d, ps)) (hw : Small 29 d) : ∃ r, ElemAt (Old w) w r cs := by
 obtain ⟨xs, n, rfl, rfl, hl, hlen, hf⟩ := open_struct (l := [(3, 0, 1), (9, 1, 1), (24, 2, 1), (23, 3, 1), (27, 4, 6), (3, 10, 1)]) Tryz.underlying29 (by kernel_rfl) h
 have hws := hw.struct Tryz.underlying29
 rw [show Tryz.prog.cellsOf 29 = 11 from by kernel_rfl] at hl
 obtain ⟨u0, u1, u2, u3, u4, u5, u6, u7, u8, u9, u10, rfl⟩ : ∃ u0 u1 u2 u3 u4 u5 u6 u7 u8 u9 u10, cs = [u0, u1, u2, u3, u4, u5, u6, u7, u8, u9, u10] := by
  match cs, hl with
  | [u0, u1, u2, u3, u4, u5, u6, u7, u8, u9, u10], _ => exact ⟨u0, u1, u2, u3, u4, u5, u6, u7, u8, u9, u10, rfl⟩
 obtain ⟨y0, y1, y2, y3, y4, y5, rfl⟩ : ∃ y0 y1 y2 y3 y4 y5, xs = [y0, y1, y2, y3, y4, y5] := by
  match xs, hlen with
  | [y0, y1, y2, y3, y4, y5], _ => exact ⟨y0, y1, y2, y3, y4, y5, rfl⟩
 have g0 := hf 0 _ _ _ rfl
 have g1 := hf 1 _ _ _ rfl
 have g2 := hf 2 _ _ _ rfl
 have g3 := hf 3 _ _ _ rfl
 have g4 := hf 4 _ _ _ rfl
 have g5 := hf 5 _ _ _ rfl
 simp only [List.drop_succ_cons, List.drop_zero, List.take_succ_cons, List.take_zero, List.getElem?_cons_succ, List.getElem?_cons_zero] at g0 g1 g2 g3 g4 g5
 have w1 := hws.part 1 (d := y1.1) rfl rfl
 have w2 := hws.part 2 (d := y2.1) rfl rfl
 have w3 := hws.part 3 (d := y3.1) rfl rfl
 have w4 := hws.part 4 (d := y4.1) rfl rfl
 obtain ⟨n0, e0, -, o0⟩ := DataW.trod_int Tryz.underlying3 g0
 obtain ⟨s1, e1, x1, -⟩ := DataW.trod_string Tryz.underlying9 g1
 obtain ⟨KA, keys, kc, e2, k1, k2, k3, k4, k5⟩ := open_keys (d := y2.1) (ps := y2.2) g2 w2
 obtain ⟨LA, l, lc, xs, e3, l1, l2, l3, l4, l5⟩ := open_values (d := y3.1) (ps := y3.2) g3 w3
 obtain ⟨v, hv⟩ := open_value (n + 1) n _ y4.1 y4.2 (by omega) g4 w4
 obtain ⟨n5, e5, -, o5⟩ := DataW.trod_int Tryz.underlying3 g5
 rw [x1] at w1
 simp only [List.cons.injEq, and_true] at e0 e1 e2 e3 e5
 subst e0; subst e1; subst e2; subst e3; subst e5
 obtain ⟨v0, v1, v2, v3, vA, vn, vc, vB, vm, vd, ev⟩ := hv.form
 simp only [List.cons.injEq, and_true] at ev
 obtain ⟨rfl, rfl, rfl, rfl, rfl, rfl⟩ := ev
 exact ⟨_, .mk (okInt_of_wf o0) w1.str (.mk i0 i0 (by decide) (by decide) k4 k3 l3 k1 k2 l1 l2 k5 l4 l5) hv (okInt_of_wf o5)⟩

end
end Go.Proofs.YtbicoknghdgahaaGreat

namespace Go.Proofs.YtbicoknghdgahaaGreat
open Go.RowKit Go.ChangeShapes Go.WideShapes

section
variable {H : Type} {enc : TypeId × Value → H} {w : World}

theorem open_path {fuel : Nat} {cs : List Value} {d : DataW H} {ps : List MemPlace} (h : DataW.trod enc Tryz.prog w 0 (fun _ => true) true fuel 22 cs = some (d, ps)) (hw : Small 22 d) :
  ∃ (A : Option Addr) (l : List REl) (c : Nat), cs = [.slice A l.length c] ∧ PathAt (Old w) w l A c := by
 obtain ⟨LA, len, lc, n', L, rfl, rfl, l1, l2, l3, l4, l5, l6, l7⟩ := open_slice (size := 11) (bytes := 168) Tryz.underlying22 (by kernel_rfl) (by kernel_rfl) (by decide) h hw
 have hall : ∀ i, i < len → ∃ r : REl, ∀ x, L[i]? = some x → ElemAt (Old w) w r x := by
  intro i hi
  obtain ⟨x, hx⟩ : ∃ x, L[i]? = some x := ⟨_, List.getElem?_eq_getElem (by omega)⟩
  obtain ⟨d', p', h8, h9⟩ := l7 i x hx
  obtain ⟨r, hr⟩ := open_elem h8 h9
  refine ⟨r, fun y hy => ?_⟩
  rw [hx] at hy
  exact Option.some.inj hy ▸ hr
 have : Inhabited REl := ⟨⟨0, ⟨#[]⟩, [], [], vNull, 0⟩⟩
 obtain ⟨f, hf'⟩ := Deep.choose_lt hall
 subst l4
 have hll : ((List.range L.length).map f).length = L.length := by simp
 refine ⟨LA, (List.range L.length).map f, lc, by rw [hll], by rw [hll]; exact l3, by rw [hll]; exact l1, l2, L.flatten, by rw [hll]; exact l5, by rw [hll]; exact l5.1, ?_⟩
 intro i r hr
 rw [List.getElem?_map] at hr
 obtain ⟨j, hj, rfl⟩ := Option.map_eq_some_iff.1 hr
 obtain ⟨hj1, hj2⟩ := List.getElem?_eq_some_iff.1 hj
 simp at hj1 hj2
 subst hj2
 have hx : L[i]? = some L[i] := List.getElem?_eq_getElem hj1
 rw [flat_part (by decide) L l6 i _ hx]
 exact hf' i hj1 _ hx

end
end Go.Proofs.YtbicoknghdgahaaGreat
