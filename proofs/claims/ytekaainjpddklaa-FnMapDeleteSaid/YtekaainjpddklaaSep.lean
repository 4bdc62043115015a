/-
  A value in memory stands for one tree only; what lies in a map lies beside the map's own block.
-/
import Derived.Test.YtekaainjpddklaaLaw
set_option linter.unusedVariables false
set_option linter.unusedSimpArgs false
namespace Go.Proofs.Ytekaainjpddklaa
open Go.RowKit Go.MapKept

theorem mapIs_keys {w : World} {r : Nat} {ks ks' : List ByteArray} {val val' : ByteArray → Value} (h : MapIs w r ks val) (h' : MapIs w r ks' val') : (∀ k, k ∈ ks → k ∈ ks' ∧ val k = val' k) := by
  intro k hk
  obtain ⟨es, clock, hb, hs, hn, h1, h2⟩ := h.ex
  obtain ⟨es', clock', hb', hs', hn', h1', h2'⟩ := h'.ex
  rw [hb] at hb'
  cases hb'
  obtain ⟨e, he, hek⟩ := h2 k hk
  obtain ⟨k1, hk1, hin1, hv1⟩ := h1 e he
  obtain ⟨k2, hk2, hin2, hv2⟩ := h1' e he
  rw [hek] at hk1 hk2
  injection hk1 with hk1
  injection hk2 with hk2
  subst hk1
  subst hk2
  exact ⟨hin2, hv1.symm.trans hv2⟩

theorem keys_values_eq {l l' : List (ByteArray × T)} (hk : l.map Prod.fst = l'.map Prod.fst) (hn : (l.map Prod.fst).Nodup) (h : ∀ k t t', (k, t) ∈ l → (k, t') ∈ l' → t = t') : l = l' := by
  induction l generalizing l' with
  | nil =>
    cases l' with
    | nil => rfl
    | cons q r => simp at hk
  | cons p r ih =>
    cases l' with
    | nil => simp at hk
    | cons q r' =>
      obtain ⟨k, t⟩ := p
      obtain ⟨k', t'⟩ := q
      simp only [List.map_cons, List.cons.injEq] at hk
      obtain ⟨rfl, hk⟩ := hk
      have e := h k t t' (by simp) (by simp)
      subst e
      rw [List.map_cons, List.nodup_cons] at hn
      rw [ih hk hn.2 fun k t t' h1 h2 => h k t t' (List.mem_cons_of_mem _ h1) (List.mem_cons_of_mem _ h2)]

theorem AnyAt.det {F G : Nat → Prop} {w : World} {t : T} {u : Value} (h : AnyAt F w t u) : ∀ t', AnyAt G w t' u → t = t' := by
  induction h with
  | null => intro t' h'; cases h'; rfl
  | bool b => intro t' h'; cases h'; rfl
  | int _ => intro t' h'; cases h'; rfl
  | flt _ => intro t' h'; cases h'; rfl
  | str _ => intro t' h'; cases h'; rfl
  | @list l A c xs h1 h2 h3 h4 h5 ih =>
    intro t' h'
    generalize hu : Value.iface 184 (.slice A l.length c) = u at h'
    cases h' with
    | @list l' A' c' xs' g1 g2 g3 g4 g5 =>
      injection hu with _ hu
      injection hu with hA hl hc
      subst hA; subst hc
      congr 1
      refine List.ext_getElem hl fun i hi hi' => ?_
      have hx : i < xs.length := by have := h4.1; omega
      have hx' : i < xs'.length := by have := g4.1; omega
      obtain ⟨b, o, e, _, hc⟩ := h4.2 (by omega)
      obtain ⟨b', o', e', _, hc'⟩ := g4.2 (by omega)
      rw [e] at e'
      cases e'
      have q1 := hc i xs[i] (List.getElem?_eq_getElem hx)
      have q2 := hc' i xs'[i] (List.getElem?_eq_getElem hx')
      rw [q1] at q2
      have q3 : xs[i] = xs'[i] := Option.some.inj q2
      refine ih i l[i] xs[i] (List.getElem?_eq_getElem hi) (List.getElem?_eq_getElem hx) _ ?_
      rw [q3]
      exact g5 i _ _ (List.getElem?_eq_getElem hi') (List.getElem?_eq_getElem hx')
    | null => cases hu
    | bool _ => cases hu
    | int _ => cases hu
    | flt _ => cases hu
    | str _ => cases hu
    | map _ _ _ _ _ _ => cases hu
  | @map l r val h1 h2 h3 h4 h5 h6 ih =>
    intro t' h'
    generalize hu : Value.iface 126 (.map (some r)) = u at h'
    cases h' with
    | @map l' r' val' g1 g2 g3 g4 g5 g6 =>
      injection hu with _ hu
      injection hu with hu
      injection hu with hu
      subst hu
      have e1 := mapIs_keys h5 g5
      have e2 := mapIs_keys g5 h5
      have hk : l.map Prod.fst = l'.map Prod.fst := sortK_ext (sortK_of h3) (sortK_of g3) fun k => ⟨fun h => (e1 k h).1, fun h => (e2 k h).1⟩
      congr 1
      refine keys_values_eq hk (sorted_nodup h3) fun k t t' ht ht' => ih k t ht t' ?_
      rw [(e1 k (List.mem_map.2 ⟨_, ht, rfl⟩)).2]
      exact g6 k t' ht'
    | null => cases hu
    | bool _ => cases hu
    | int _ => cases hu
    | flt _ => cases hu
    | str _ => cases hu
    | list _ _ _ _ _ => cases hu

/-- what is smaller than a map lies beside its block -/
theorem AnyAt.beside {F G : Nat → Prop} {w : World} {L : T} {r : Nat} {m : Nat} (hL : AnyAt G w L (.iface 126 (.map (some r)))) (hm : L.rank = m) {t : T} {u : Value} (h : AnyAt F w t u) : t.rank < m → AnyAt (fun b => F b ∧ b ≠ r) w t u := by
  have hmap : ∃ es clock, w.heap[r]? = some (.map es clock) := by
    generalize hu : Value.iface 126 (.map (some r)) = u at hL
    cases hL with
    | map _ _ _ _ h5 _ =>
      injection hu with _ hu
      injection hu with hu
      injection hu with hu
      subst hu
      obtain ⟨es, clock, hb, _⟩ := h5.ex
      exact ⟨es, clock, hb⟩
    | null => cases hu
    | bool _ => cases hu
    | int _ => cases hu
    | flt _ => cases hu
    | str _ => cases hu
    | list _ _ _ _ _ => cases hu
  induction h with
  | null => intro _; exact .null
  | bool b => intro _; exact .bool b
  | int h => intro _; exact .int h
  | flt h => intro _; exact .flt h
  | str h => intro _; exact .str h
  | @list l A c xs h1 h2 h3 h4 h5 ih =>
    intro hr
    refine .list h1 h2 h3 ⟨h4.1, fun hn => ?_⟩ fun i t u ht hu => ih i t u ht hu (Nat.lt_trans (T.rank_list (List.mem_of_getElem? ht)) hr)
    obtain ⟨b, o, e, hF, hc⟩ := h4.2 hn
    refine ⟨b, o, e, ⟨hF, ?_⟩, hc⟩
    rintro rfl
    obtain ⟨es, clock, hb⟩ := hmap
    have hx : 0 < xs.length := by have := h4.1; omega
    have := hc 0 xs[0] (List.getElem?_eq_getElem hx)
    simp [World.cell?, hb] at this
  | @map l r' val h1 h2 h3 h4 h5 h6 ih =>
    intro hr
    refine .map h1 h2 h3 ⟨h4, ?_⟩ h5 fun k t ht => ih k t ht (Nat.lt_trans (T.rank_map ht) hr)
    rintro rfl
    have := hL.det _ (AnyAt.map h1 h2 h3 h4 h5 h6)
    rw [this] at hm
    omega

/-- a map's items lie beside its block -/
theorem AnyAt.items {F : Nat → Prop} {w : World} {l : List (ByteArray × T)} {r : Nat} (h : AnyAt F w (.map l) (.iface 126 (.map (some r)))) :
    ∃ val, MapIs w r (l.map Prod.fst) val ∧ Sorted l ∧ l.length * 88 ≤ R47 ∧ (∀ p ∈ l, p.1.size ≤ R47) ∧ F r ∧ ∀ k t, (k, t) ∈ l → AnyAt (fun b => F b ∧ b ≠ r) w t (val k) := by
  have h' := h
  generalize hu : Value.iface 126 (.map (some r)) = u at h'
  generalize hl : T.map l = t at h'
  cases h' with
  | @map l' r' val' g1 g2 g3 g4 g5 g6 =>
    injection hl with hl
    injection hu with _ hu
    injection hu with hu
    injection hu with hu
    subst hl; subst hu
    exact ⟨val', g5, g3, g1, g2, g4, fun k t ht => AnyAt.beside h rfl (g6 k t ht) (T.rank_map ht)⟩
  | null => cases hu
  | bool _ => cases hu
  | int _ => cases hu
  | flt _ => cases hu
  | str _ => cases hu
  | list _ _ _ _ _ => cases hu

theorem RVAt.kind6 {F : Nat → Prop} {w : World} {kd n : Int} {f : Nat} {s : ByteArray} {keys : List ByteArray} {l : List RV} {a0 a1 a2 a3 a4 a5 : Value} (h : RVAt F w (.mk kd n f s keys l) [a0, a1, a2, a3, a4, a5]) : RVAt F w (.mk 6 n f s keys l) [.int .i64 6, a1, a2, a3, a4, a5] := by
  cases h with
  | mk h1 h2 h3 h4 h5 h6 h7 h8 h9 h10 h11 h12 h13 h14 => exact .mk ⟨by decide, by decide⟩ h2 h3 h4 h5 h6 h7 h8 h9 h10 h11 h12 h13 h14

end Go.Proofs.Ytekaainjpddklaa
