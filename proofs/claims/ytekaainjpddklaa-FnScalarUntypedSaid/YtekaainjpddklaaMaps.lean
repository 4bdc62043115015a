/-
  A map keyed by strings, as one block of memory: made, written, looked up, counted, deleted from, ranged over. No program in sight.
-/
import Derived.Maps.RangeRun
import Derived.Below
import Derived.MapKept
import Derived.WideLaws
import Derived.OwnWalk
namespace Go.Proofs.Ytekaainjpddklaa
open Go.RowKit Go.MapKept Go.ChangeMaps

/-- block r is a map whose keys are ks, each once; under k lies 'val k' -/
structure MapIs (w : World) (r : Nat) (ks : List ByteArray) (val : ByteArray → Value) : Prop where
  ex : ∃ es clock, w.heap[r]? = some (.map es clock) ∧ Stamped es clock ∧ ks.Nodup ∧
    (∀ e ∈ es.toList, ∃ k, e.key = .string k ∧ k ∈ ks ∧ e.val = val k) ∧ (∀ k ∈ ks, ∃ e ∈ es.toList, e.key = .string k)

section
variable {P : Program} {w w' : World} {r : Nat} {ks : List ByteArray} {val : ByteArray → Value} {t kt et : TypeId}

theorem MapIs.keep (h : MapIs w r ks val) (k : w'.heap[r]? = w.heap[r]?) : MapIs w' r ks val := by
  obtain ⟨es, clock, hb, rest⟩ := h.ex
  exact ⟨es, clock, k.trans hb, rest⟩
theorem MapIs.lt (h : MapIs w r ks val) : r < w.heap.size := by
  obtain ⟨es, clock, hb, _⟩ := h.ex
  exact (Array.getElem?_eq_some_iff.1 hb).1
theorem MapIs.nodup (h : MapIs w r ks val) : ks.Nodup := by
  obtain ⟨es, clock, _, _, h, _⟩ := h.ex
  exact h
theorem MapIs.made (w : World) (val : ByteArray → Value) : MapIs (w.alloc (.map #[] 0)) w.heap.size [] val :=
  ⟨#[], 0, (MapKept.heap_alloc w _).1, stamped_empty 0, by simp, by simp, by simp⟩

theorem isKey_str {es : Array MapEntry} (h : ∀ e ∈ es.toList, ∃ k, e.key = .string k ∧ k ∈ ks ∧ e.val = val k) : ∀ x ∈ es.toList, IsKey .string x.key := by
  intro x hx
  obtain ⟨k, hk, _⟩ := h x hx
  rw [hk]
  trivial
theorem entry_eq_of_keys {es : Array MapEntry} {clock : Nat} (hs : Stamped es clock) {x y : MapEntry} (hx : x ∈ es.toList) (hy : y ∈ es.toList) (h : x.key = y.key) : x = y := by
  have hp := ((stamped_iff es clock).1 hs).2.2
  clear hs
  generalize es.toList = l at hp hx hy
  induction hp with
  | nil => simp at hx
  | cons h1 _ ih =>
    rcases List.mem_cons.1 hx with ex | hx'
    · rcases List.mem_cons.1 hy with ey | hy'
      · rw [ex, ey]
      · subst ex; exact absurd h (h1 y hy')
    · rcases List.mem_cons.1 hy with ey | hy'
      · subst ey; exact absurd h.symm (h1 x hx')
      · exact ih hx' hy'

/-- what a look-up finds -/
theorem find_str {es : Array MapEntry} {clock : Nat} (_hs : Stamped es clock) (h1 : ∀ e ∈ es.toList, ∃ k, e.key = .string k ∧ k ∈ ks ∧ e.val = val k) (h2 : ∀ k ∈ ks, ∃ e ∈ es.toList, e.key = .string k) (k : ByteArray) :
    (k ∈ ks ∧ ∃ j e, Instr.findNow .string (.string k) es.toList 0 = some (some (j, val k)) ∧ es.toList[j]? = some e ∧ e.key = .string k) ∨
    (k ∉ ks ∧ Instr.findNow .string (.string k) es.toList 0 = some none ∧ ∀ x ∈ es.toList, x.key ≠ .string k) := by
  rcases findNow_spec (d := .string) (k := .string k) trivial es.toList 0 (isKey_str h1) with ⟨q1, q2⟩ | ⟨j, e, q1, q2, q3⟩
  · right
    refine ⟨fun hk => ?_, q1, q2⟩
    obtain ⟨e, he, hek⟩ := h2 k hk
    exact q2 e he hek
  · left
    have hem := List.mem_of_getElem? q2
    obtain ⟨k', hk', hm, hv⟩ := h1 e hem
    rw [q3] at hk'
    injection hk' with hk'
    subst hk'
    exact ⟨hm, j, e, by rw [q1, hv]; simp, q2, q3⟩

theorem MapIs.lookup_ok (h : MapIs w r ks val) (ht : P.underlying t = some (.map kt et)) (hk : P.underlying kt = some .string) (k : ByteArray) (hm : k ∈ ks) :
    (Instr.lookup t (.map (some r)) (.string k) true).run P w = .ok (.tuple #[val k, .bool true]) w ∧ (Instr.lookup t (.map (some r)) (.string k) false).run P w = .ok (val k) w := by
  obtain ⟨es, clock, hb, hs, _, h1, h2⟩ := h.ex
  rcases find_str hs h1 h2 k with ⟨_, j, e, q1, _⟩ | ⟨q, _⟩
  · constructor <;> simp [Instr.lookup, run_underlying ht, MapKept.run_getObj_map hb, run_checkKey (d := .string) (k := .string k) hk trivial, run_findKey hk q1, Result.andThen]
  · exact absurd hm q
theorem MapIs.lookup_no (h : MapIs w r ks val) (ht : P.underlying t = some (.map kt et)) (hk : P.underlying kt = some .string) {z : Value} (hz : (zeroValue et).run P w = .ok z w) (k : ByteArray) (hm : k ∉ ks) :
    (Instr.lookup t (.map (some r)) (.string k) true).run P w = .ok (.tuple #[z, .bool false]) w ∧ (Instr.lookup t (.map (some r)) (.string k) false).run P w = .ok z w := by
  obtain ⟨es, clock, hb, hs, _, h1, h2⟩ := h.ex
  rcases find_str hs h1 h2 k with ⟨q, _⟩ | ⟨_, q1, _⟩
  · exact absurd q hm
  · constructor <;> simp [Instr.lookup, run_underlying ht, MapKept.run_getObj_map hb, run_checkKey (d := .string) (k := .string k) hk trivial, run_findKey hk q1, hz, Result.andThen]

theorem setBlock_grown {o : Obj} {es : Array MapEntry} {clock : Nat} (hb : w.heap[r]? = some (.map es clock)) : w.grownBy (setBlock w r o) (some r) :=
  ⟨rfl, rfl, rfl, by simp [setBlock], fun i _ hi => heap_setBlock_other hb _ (fun e => hi (by rw [e]))⟩

theorem MapIs.update (h : MapIs w r ks val) (ht : P.underlying t = some (.map kt et)) (hk : P.underlying kt = some .string) (k : ByteArray) (u : Value) (ks' : List ByteArray) (hn : ks'.Nodup) (hm : ∀ x, x ∈ ks' ↔ x = k ∨ x ∈ ks) :
    ∃ w', (Instr.mapUpdate t (.map (some r)) (.string k) u).run P w = .ok () w' ∧ MapIs w' r ks' (fun x => if x = k then u else val x) ∧ w.grownBy w' (some r) ∧ w'.heap.size = w.heap.size := by
  obtain ⟨es, clock, hb, hs, _, h1, h2⟩ := h.ex
  have hkk : IsKey .string (.string k) := trivial
  rcases find_str hs h1 h2 k with ⟨hin, j, e, q1, q2, q3⟩ | ⟨hout, q1, q2⟩
  · have hj : es[j]? = some e := by simpa using q2
    refine ⟨setBlock w r (.map (es.modify j fun e => { e with key := .string k, val := u }) clock), ?_, ⟨_, _, heap_setBlock_same hb _, ?_, hn, ?_, ?_⟩, setBlock_grown hb, by simp [setBlock]⟩
    · simp [Instr.mapUpdate, run_underlying ht, MapKept.run_getObj_map hb, run_checkKey hk hkk, run_findKey hk q1, hj, q3, run_keyThatStays hkk, MapKept.run_setObj_map _ hb, Result.andThen, setBlock]
    · exact stamped_modify hs _ _ (fun _ _ => rfl) (fun e' _ he' => by rw [hj] at he'; cases he'; exact q3.symm)
    · intro x hx
      obtain ⟨i, hi⟩ := List.getElem?_of_mem hx
      rw [Array.getElem?_toList, Array.getElem?_modify] at hi
      by_cases hij : j = i
      · subst hij
        rw [if_pos rfl, hj] at hi
        simp only [Option.map_some, Option.some.injEq] at hi
        subst hi
        exact ⟨k, rfl, (hm k).2 (.inl rfl), by simp⟩
      · rw [if_neg hij] at hi
        have hxm : x ∈ es.toList := List.mem_of_getElem? (by simpa using hi)
        obtain ⟨k', hk', hin', hv⟩ := h1 x hxm
        have hne : k' ≠ k := by
          rintro rfl
          have hbx := entry_eq_of_keys hs hxm (List.mem_of_getElem? q2) (hk'.trans q3.symm)
          have hst := ((stamped_iff es clock).1 hs).2.1
          subst hbx
          have h3 : (es.toList.map (·.born))[i]? = (es.toList.map (·.born))[j]? := by
            rw [List.getElem?_map, List.getElem?_map, q2]
            have : es.toList[i]? = some x := by simpa using hi
            rw [this]
          have hil : i < (es.toList.map (·.born)).length := by
            have := (Array.getElem?_eq_some_iff.1 hi).1
            simpa using this
          exact hij ((List.getElem?_inj hil hst).1 h3).symm
        exact ⟨k', hk', (hm k').2 (.inr hin'), by rw [hv, if_neg hne]⟩
    · intro x hx
      rcases (hm x).1 hx with rfl | hx
      · refine ⟨{ e with key := .string x, val := u }, ?_, rfl⟩
        refine List.mem_of_getElem? (i := j) ?_
        rw [Array.getElem?_toList, Array.getElem?_modify, if_pos rfl, hj]
        rfl
      · obtain ⟨e', he', hk'⟩ := h2 x hx
        obtain ⟨i, hi⟩ := List.getElem?_of_mem he'
        by_cases hij : j = i
        · subst hij
          rw [q2] at hi
          cases hi
          refine ⟨{ e with key := .string k, val := u }, ?_, by rw [← hk', q3]⟩
          refine List.mem_of_getElem? (i := j) ?_
          rw [Array.getElem?_toList, Array.getElem?_modify, if_pos rfl, hj]
          rfl
        · refine ⟨e', ?_, hk'⟩
          refine List.mem_of_getElem? (i := i) ?_
          rw [Array.getElem?_toList, Array.getElem?_modify, if_neg hij]
          simpa using hi
  · refine ⟨setBlock w r (.map (es.push { key := .string k, val := u, born := clock }) (clock + 1)), ?_, ⟨_, _, heap_setBlock_same hb _, stamped_push hs q2, hn, ?_, ?_⟩, setBlock_grown hb, by simp [setBlock]⟩
    · simp [Instr.mapUpdate, run_underlying ht, MapKept.run_getObj_map hb, run_checkKey hk hkk, run_findKey hk q1, MapKept.run_setObj_map _ hb, Result.andThen, setBlock]
    · intro x hx
      simp only [Array.toList_push, List.mem_append, List.mem_singleton] at hx
      rcases hx with hx | rfl
      · obtain ⟨k', hk', hin', hv⟩ := h1 x hx
        have hne : k' ≠ k := fun e => hout (e ▸ hin')
        exact ⟨k', hk', (hm k').2 (.inr hin'), by rw [hv, if_neg hne]⟩
      · exact ⟨k, rfl, (hm k).2 (.inl rfl), by simp⟩
    · intro x hx
      rcases (hm x).1 hx with rfl | hx
      · exact ⟨_, by simp only [Array.toList_push, List.mem_append, List.mem_singleton]; exact .inr rfl, rfl⟩
      · obtain ⟨e', he', hk'⟩ := h2 x hx
        exact ⟨e', by simp only [Array.toList_push, List.mem_append]; exact .inl he', hk'⟩

/-- how many entries there are -/
theorem MapIs.size (h : MapIs w r ks val) {es : Array MapEntry} {clock : Nat} (hb : w.heap[r]? = some (.map es clock)) : es.size = ks.length := by
  obtain ⟨es', clock', hb', hs, hn, h1, h2⟩ := h.ex
  rw [hb] at hb'
  cases hb'
  have hp : (es.toList.map (·.key)).Perm (ks.map Value.string) := by
    refine (List.perm_ext_iff_of_nodup hs.2.2 ?_).2 fun v => ?_
    · exact List.Pairwise.map _ (fun a b (hab : a ≠ b) e => hab (by injection e)) hn
    · constructor
      · intro hv
        obtain ⟨e, he, rfl⟩ := List.mem_map.1 hv
        obtain ⟨k, hk, hin, _⟩ := h1 e he
        exact List.mem_map.2 ⟨k, hin, hk.symm⟩
      · intro hv
        obtain ⟨k, hk, rfl⟩ := List.mem_map.1 hv
        obtain ⟨e, he, hek⟩ := h2 k hk
        exact List.mem_map.2 ⟨e, he, hek⟩
  have := hp.length_eq
  simpa using this
theorem MapIs.run_len (h : MapIs w r ks val) (ht : P.underlying t = some (.map kt et)) (ty : TypeId) : (Builtin.len_ #[t] ty #[.map (some r)]).run P w = .ok (.int .i64 (ks.length : Int)) w := by
  obtain ⟨es, clock, hb, _⟩ := h.ex
  have := h.size hb
  simp [Builtin.len_, run_underlying ht, MapKept.run_getObj_map hb, this, goInt, Result.andThen]

theorem MapIs.delete (h : MapIs w r ks val) (ht : P.underlying t = some (.map kt et)) (hk : P.underlying kt = some .string) (k : ByteArray) (ty : TypeId) (ks' : List ByteArray) (hn : ks'.Nodup) (hm : ∀ x, x ∈ ks' ↔ x ∈ ks ∧ x ≠ k) :
    ∃ w', (Builtin.delete_ #[t, kt] ty #[.map (some r), .string k]).run P w = .ok (.tuple #[]) w' ∧ MapIs w' r ks' val ∧ w.grownBy w' (some r) ∧ w'.heap.size = w.heap.size := by
  obtain ⟨es, clock, hb, hs, _, h1, h2⟩ := h.ex
  have hkk : IsKey .string (.string k) := trivial
  rcases find_str hs h1 h2 k with ⟨hin, j, e, q1, q2, q3⟩ | ⟨hout, q1, q2⟩
  · have hjl : j < es.toList.length := (List.getElem?_eq_some_iff.1 q2).1
    have hjs : j < es.size := by simpa using hjl
    have hsub : (es.eraseIdxIfInBounds j).toList = es.toList.eraseIdx j := by
      unfold Array.eraseIdxIfInBounds
      rw [dif_pos hjs]
      simp
    have hwho : ∀ x, x ∈ es.toList.eraseIdx j ↔ x ∈ es.toList ∧ x.key ≠ .string k := by
      intro x
      rw [List.mem_eraseIdx_iff_getElem?]
      constructor
      · rintro ⟨i, hne, hi⟩
        refine ⟨List.mem_of_getElem? hi, fun hxk => hne ?_⟩
        have hx := entry_eq_of_keys hs (List.mem_of_getElem? hi) (List.mem_of_getElem? q2) (hxk.trans q3.symm)
        subst hx
        have hst := ((stamped_iff es clock).1 hs).2.1
        have h3 : (es.toList.map (·.born))[i]? = (es.toList.map (·.born))[j]? := by rw [List.getElem?_map, List.getElem?_map, hi, q2]
        exact (List.getElem?_inj (by have := (List.getElem?_eq_some_iff.1 hi).1; simpa using this) hst).1 h3
      · rintro ⟨hx, hne⟩
        obtain ⟨i, hi⟩ := List.getElem?_of_mem hx
        refine ⟨i, fun e1 => hne ?_, hi⟩
        rw [e1, q2] at hi
        cases hi
        exact q3
    refine ⟨setBlock w r (.map (es.eraseIdxIfInBounds j) clock), ?_, ⟨_, _, heap_setBlock_same hb _, stamped_erase hs j, hn, ?_, ?_⟩, setBlock_grown hb, by simp [setBlock]⟩
    · simp [Builtin.delete_, run_underlying ht, MapKept.run_getObj_map hb, run_checkKey hk hkk, run_findKey hk q1, MapKept.run_setObj_map _ hb, Result.andThen, setBlock]
    · intro x hx
      rw [hsub] at hx
      obtain ⟨hx, hxk⟩ := (hwho x).1 hx
      obtain ⟨k', hk', hin', hv⟩ := h1 x hx
      exact ⟨k', hk', (hm k').2 ⟨hin', fun e1 => hxk (by rw [hk', e1])⟩, hv⟩
    · intro x hx
      obtain ⟨hx, hxk⟩ := (hm x).1 hx
      obtain ⟨e', he', hk'⟩ := h2 x hx
      refine ⟨e', ?_, hk'⟩
      rw [hsub]
      exact (hwho e').2 ⟨he', by rw [hk']; intro e1; injection e1 with e1; exact hxk e1⟩
  · refine ⟨setBlock w r (.map es clock), ?_, ⟨_, _, heap_setBlock_same hb _, hs, hn, ?_, ?_⟩, setBlock_grown hb, by simp [setBlock]⟩
    · simp [Builtin.delete_, run_underlying ht, MapKept.run_getObj_map hb, run_checkKey hk hkk, run_findKey hk q1, MapKept.run_setObj_map _ hb, Result.andThen, setBlock]
    · intro x hx
      obtain ⟨k', hk', hin', hv⟩ := h1 x hx
      exact ⟨k', hk', (hm k').2 ⟨hin', fun e1 => hout (e1 ▸ hin')⟩, hv⟩
    · intro x hx
      exact h2 x ((hm x).1 hx).1

/-- a range over the map of block r is under way, its iterator in block it; the keys of 'left' are still to come; nothing is laid into the map meanwhile -/
structure MapRange (w : World) (it r : Nat) (ks : List ByteArray) (val : ByteArray → Value) (left : List ByteArray) : Prop where
  ex : ∃ es clock seen c0, w.heap[r]? = some (.map es clock) ∧ Stamped es clock ∧ ks.Nodup ∧
    (∀ e ∈ es.toList, ∃ k, e.key = .string k ∧ k ∈ ks ∧ e.val = val k) ∧ (∀ k ∈ ks, ∃ e ∈ es.toList, e.key = .string k) ∧
    w.heap[it]? = some (.mapIter (some r) clock seen c0) ∧ clock ≤ c0 ∧ left.Nodup ∧ (∀ k ∈ left, k ∈ ks) ∧ (∀ e ∈ es.toList, ∀ k, e.key = .string k → (k ∈ left ↔ seen.contains e.born = false))

theorem MapRange.is_ {it : Nat} {left : List ByteArray} (h : MapRange w it r ks val left) : MapIs w r ks val := by
  obtain ⟨es, clock, seen, c0, hb, hs, hn, h1, h2, _⟩ := h.ex
  exact ⟨es, clock, hb, hs, hn, h1, h2⟩
theorem MapRange.lt {it : Nat} {left : List ByteArray} (h : MapRange w it r ks val left) : it < w.heap.size := by
  obtain ⟨es, clock, seen, c0, _, _, _, _, _, hi, _⟩ := h.ex
  exact (Array.getElem?_eq_some_iff.1 hi).1
theorem MapRange.keep {it : Nat} {left : List ByteArray} (h : MapRange w it r ks val left) (k1 : w'.heap[r]? = w.heap[r]?) (k2 : w'.heap[it]? = w.heap[it]?) : MapRange w' it r ks val left := by
  obtain ⟨es, clock, seen, c0, hb, hs, hn, h1, h2, hi, rest⟩ := h.ex
  exact ⟨es, clock, seen, c0, k1.trans hb, hs, hn, h1, h2, k2.trans hi, rest⟩
theorem MapIs.range (h : MapIs w r ks val) (ht : P.underlying t = some (.map kt et)) :
    (Instr.range t (.map (some r))).run P w = .ok (.pointer (some ⟨w.heap.size, 0, none⟩)) (w.alloc (.mapIter (some r) ((w.heap[r]?).elim 0 fun | .map _ c => c | _ => 0) #[] ((w.heap[r]?).elim 0 fun | .map _ c => c | _ => 0))) ∧
    MapRange (w.alloc (.mapIter (some r) ((w.heap[r]?).elim 0 fun | .map _ c => c | _ => 0) #[] ((w.heap[r]?).elim 0 fun | .map _ c => c | _ => 0))) w.heap.size r ks val ks := by
  obtain ⟨es, clock, hb, hs, hn, h1, h2⟩ := h.ex
  have hlt := h.lt
  simp only [hb, Option.elim_some]
  refine ⟨run_range_map w t kt et r es clock ht hb, ⟨es, clock, #[], clock, ((MapKept.heap_alloc w _).2 r hlt).trans hb, hs, hn, h1, h2, (MapKept.heap_alloc w _).1, Nat.le_refl _, hn, fun k hk => hk, fun e he k hk => ?_⟩⟩
  obtain ⟨k', hk', hin, _⟩ := h1 e he
  rw [hk] at hk'
  injection hk' with hk'
  subst hk'
  simp [hin]
theorem MapRange.next {it : Nat} {left : List ByteArray} (h : MapRange w it r ks val left) (ty : TypeId) :
    (left = [] ∧ (Instr.next (.pointer (some ⟨it, 0, none⟩)) false ty).run P w = .ok (.tuple #[.bool false]) w) ∨
    ∃ k w', k ∈ left ∧ (Instr.next (.pointer (some ⟨it, 0, none⟩)) false ty).run P w = .ok (.tuple #[.bool true, .string k, val k]) w' ∧ MapRange w' it r ks val (left.filter fun x => decide (x ≠ k)) ∧ w.grownBy w' (some it) ∧ w'.heap.size = w.heap.size ∧
      (Instr.entry (.pointer (some ⟨it, 0, none⟩))).run P w' = .ok (.tuple #[.string k, val k]) w' := by
  obtain ⟨es, clock, seen, c0, hb, hs, hn, h1, h2, hi, hc, hln, hls, hl⟩ := h.ex
  have hne : it ≠ r := by rintro rfl; rw [hb] at hi; cases hi
  have hst := (stamped_iff es clock).1 hs
  rcases run_next_at (P := P) w ty it r clock c0 seen es clock hi hb hst.1 hc with ⟨h0, hrun⟩ | ⟨e, he, w1, hal, hrun⟩
  · refine .inl ⟨?_, hrun⟩
    cases left with
    | nil => rfl
    | cons k rest =>
      exfalso
      obtain ⟨e, he, hek⟩ := h2 k (hls k (by simp))
      have hs' := (hl e he k hek).1 (by simp)
      have hmem : e ∈ (leftOf es seen).toList := by
        simp only [leftOf, Array.toList_filter, List.mem_filter]
        exact ⟨he, by rw [hs']; rfl⟩
      have : (leftOf es seen).toList.length = 0 := by simpa using h0
      rw [List.length_eq_zero_iff] at this
      rw [this] at hmem
      cases hmem
  · have hem : e ∈ es.toList ∧ seen.contains e.born = false := by
      simp only [leftOf, Array.toList_filter, List.mem_filter, Bool.not_eq_true'] at he
      exact he
    obtain ⟨k, hk, hin, hv⟩ := h1 e hem.1
    have hleft : k ∈ left := (hl e hem.1 k hk).2 hem.2
    have hr1 : w1.heap[it]? = some (.mapIter (some r) clock seen c0) := by rcases hal with rfl | rfl <;> exact hi
    have hb1 : w1.heap[r]? = some (.map es clock) := by rcases hal with rfl | rfl <;> exact hb
    have hset := heap_set (o' := .mapIter (some r) clock (seen.push e.born) clock) hr1
    have hb' : (setBlock w1 it (.mapIter (some r) clock (seen.push e.born) clock)).heap[r]? = some (.map es clock) := (hset.2 r (fun e1 => hne e1.symm)).trans hb1
    rw [hk, hv] at hrun
    refine .inr ⟨k, _, hleft, hrun, ⟨es, clock, seen.push e.born, clock, hb', hs, hn, h1, h2, hset.1, Nat.le_refl _, hln.filter _, fun x hx => hls x (List.mem_filter.1 hx).1, fun e' he' k' hk' => ?_⟩, ?_, ?_, ?_⟩
    · rw [List.mem_filter, hl e' he' k' hk']
      simp only [Array.contains_push, Bool.or_eq_false_iff, beq_eq_false_iff_ne, ne_eq, decide_eq_true_eq]
      constructor
      · rintro ⟨q2, q1⟩
        refine ⟨q2, fun e1 => q1 ?_⟩
        have hst2 := hst.2.1
        have : e' = e := by
          obtain ⟨i, hi'⟩ := List.getElem?_of_mem he'
          obtain ⟨j, hj'⟩ := List.getElem?_of_mem hem.1
          have h3 : (es.toList.map (·.born))[i]? = (es.toList.map (·.born))[j]? := by rw [List.getElem?_map, List.getElem?_map, hi', hj']; simp [e1]
          have := (List.getElem?_inj (by have := (List.getElem?_eq_some_iff.1 hi').1; simpa using this) hst2).1 h3
          subst this
          rw [hi'] at hj'
          exact Option.some.inj hj'
        subst this
        rw [hk] at hk'
        injection hk' with hk'
        exact hk'.symm
      · rintro ⟨q1, q2⟩
        refine ⟨q1, fun e1 => q2 ?_⟩
        subst e1
        rw [entry_eq_of_keys hs he' hem.1 (hk'.trans hk.symm)]
    · rcases hal with rfl | rfl <;> exact ⟨rfl, rfl, rfl, by simp [setBlock], fun i _ hi => hset.2 i (fun e1 => hi (by rw [e1]))⟩
    · rcases hal with rfl | rfl <;> simp [setBlock]
    · have := run_entry_at (P := P) (setBlock w1 it (.mapIter (some r) clock (seen.push e.born) clock)) it r clock seen es clock e hset.1 hb' hem.1 hst.2.1
      rw [hk, hv] at this
      exact this
end

/-! at an operation of the walk -/
section
variable {P : Program} (w : World) {ops : Array Oper} {rest : List Oper} {o : Oper} {a : Act} {Q : Exit → Act → World → Prop}

theorem wpList_update_is (hg : o.guard = none) (m x v : Operand) (t : TypeId) (hop : o.op = Op.mapUpdate t m x v) (kt et : TypeId) (ht : P.underlying t = some (.map kt et)) (hk : P.underlying kt = some .string)
    (r : Nat) (ks : List ByteArray) (val : ByteArray → Value) (hm : a.eval m = .map (some r)) (h : MapIs w r ks val) (k : ByteArray) (u : Value) (hx : a.eval x = .string k) (hv : a.eval v = u) (ks' : List ByteArray) (hn : ks'.Nodup) (hmem : ∀ x, x ∈ ks' ↔ x = k ∨ x ∈ ks)
    (hK : ∀ w', MapIs w' r ks' (fun x => if x = k then u else val x) → w.grownBy w' (some r) → w'.heap.size = w.heap.size → wpList P ops Q rest (a.put o.dst undef) w') :
    wpList P ops Q (o :: rest) a w := by
  refine wpList_plain hg fun K' hK' => ?_
  obtain ⟨w', hrun, r1, r2, r3⟩ := h.update (P := P) ht hk k u ks' hn hmem
  unfold Oper.wp
  simp [execOp, hop, hm, hx, hv, hrun, Result.andThen]
  exact hK' _ _ (hK w' r1 r2 r3)
end

end Go.Proofs.Ytekaainjpddklaa
