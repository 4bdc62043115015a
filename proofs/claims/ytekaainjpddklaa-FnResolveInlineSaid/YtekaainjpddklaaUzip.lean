/-
  The unordered zip of two maps, generic in the closure; value.MapEqualsUsing.
-/
import Derived.Test.YtekaainjpddklaaLaw
set_option linter.unusedVariables false
set_option linter.unusedSimpArgs false
namespace Go.Proofs.Ytekaainjpddklaa
open Go.RowKit
theorem meth_Empty (n : Nat) (v : Value) (w : World) : (method (n + 1) 281 v "Empty").run Try.prog w = .ok (191, v) w := by kernel_rfl
attribute [local go_sem] run_store_float run_load_k meth_Free meth_Length meth_IterateUsing meth_GetUsing meth_Has meth_Empty meth_ZipUsing

theorem mapEmpty_calls {r : Nat} {ks : List ByteArray} {val : ByteArray → Value} {w : World} (h : MapIs w r ks val) :
    Calls Try.prog 191 #[.map (some r)] w fun e w' => e = .returned (.bool (decide (ks.length = 0))) ∧ w = w' := by
  have hl := h.run_len (P := Try.prog) Try.underlying281
  go_enter Try.func191, Try.ntmps191
  go_wp2
  go_ret
  refine ⟨?_, rfl⟩
  refine ret_bool ?_
  rw [Bool.eq_iff_iff]
  simp

/-- below n the worlds agree -/
structure Same (n : Nat) (W W' : World) : Prop where
  os : W'.os = W.os
  tape : W'.tape = W.tape
  output : W'.output = W.output
  size : W.heap.size ≤ W'.heap.size
  block : ∀ b, b < n → W'.heap[b]? = W.heap[b]?

/-- what is asked of the closure of an unordered zip -/
structure UStep (f : FuncId) (cap : Array Value) (l1 l2 : List (ByteArray × T)) (w : World) (S : Nat → Prop) (J : List ByteArray → World → Prop) (Jf : World → Prop) : Prop where
  start : ∀ W, Below w.heap.size w W → J [] W
  keep : ∀ vis W W', J vis W → Same w.heap.size W W' → J vis W'
  step : ∀ vis k W lv rv, k ∈ bothK l1 l2 → k ∉ vis → J vis W → w.heap.size ≤ W.heap.size → ItemV W (getT l1 k) lv → ItemV W (getT l2 k) rv →
    Calls Try.prog f (#[.string k, lv, rv] ++ cap) W fun e W' => ((e = .returned (.bool true) ∧ J (vis ++ [k]) W') ∨ (e = .returned (.bool false) ∧ Jf W')) ∧ ButS S W W'

def UPost (l1 l2 : List (ByteArray × T)) (w : World) (S : Nat → Prop) (J : List ByteArray → World → Prop) (Jf : World → Prop) (e : Ending) (w' : World) : Prop :=
  ((e = .returned (.bool true) ∧ ∃ vis : List ByteArray, vis.Perm (bothK l1 l2) ∧ J vis w') ∨ (e = .returned (.bool false) ∧ Jf w')) ∧ ButS S w w'

/-- the cells that the closures find -/
structure UCells (n : Nat) (pa : Addr) (r1 r2 : Nat) (f : FuncId) (cap : Array Value) (W : World) : Prop where
  a : Bk W n 214 #[.iface 178 (.pointer (some pa))]
  l : Bk W (n + 1) 121 #[.iface 281 (.map (some r1))]
  r : Bk W (n + 2) 121 #[.iface 281 (.map (some r2))]
  f : Bk W (n + 3) 125 #[.func (.func f) #[] cap]
theorem UCells.keep {n : Nat} {pa : Addr} {r1 r2 : Nat} {f : FuncId} {cap : Array Value} {W W' : World} (h : UCells n pa r1 r2 f cap W) (hk : ∀ b, b < W.heap.size → n ≤ b → b < n + 4 → W'.heap[b]? = W.heap[b]?) : UCells n pa r1 r2 f cap W' :=
  ⟨(hk _ h.a.lt (by omega) (by omega)).trans h.a, (hk _ h.l.lt (by omega) (by omega)).trans h.l, (hk _ h.r.lt (by omega) (by omega)).trans h.r, (hk _ h.f.lt (by omega) (by omega)).trans h.f⟩

section
variable {f : FuncId} {cap : Array Value} (hcf : ∀ (args : Array Value) (W : World), (callFunc f args).run Try.prog W = .ok (.enter f args) W)
include hcf
set_option maxRecDepth 100000 in
set_option maxHeartbeats 1000000 in
theorem uClosure1 (n : Nat) (pa : Addr) (r1 r2 : Nat) {F : Nat → Prop} {l2 : List (ByteArray × T)} {val2 : ByteArray → Value} (k : ByteArray) (lv : Value) (W : World) (h : UCells n pa r1 r2 f cap W) (hm : MapAt F W r2 l2 val2) (hF : ∀ b, F b → b < W.heap.size)
    {Q : Ending → World → Prop} (hQ : ∀ e w', Q e w' → ∃ b : Bool, e = .returned (.bool b))
    (hcall : ∀ W1 rv, Below W.heap.size W W1 → ItemV W1 (getT l2 k) rv → Calls Try.prog f (#[.string k, lv, rv] ++ cap) W1 Q) :
    Calls Try.prog 207 #[.string k, lv, .pointer (some ⟨n + 2, 0, none⟩), .pointer (some ⟨n, 0, none⟩), .pointer (some ⟨n + 3, 0, none⟩)] W Q := by
  have q0 := h.a.cell 0
  have q2 := h.r.cell 0
  have q3 := h.f.cell 0
  simp at q0 q2 q3
  have Hm := hide hm
  have HF := hide hF
  have HQ := hide hQ
  have Hcall := hide hcall
  have Hh := hide h
  clear hm hF hQ hcall h
  cases hg : getT l2 k with
  | none =>
    have Hg := hide hg
    clear hg
    go_enter_defers Try.func207, Try.ntmps207
    go_wp2_with fail
    refine (mapGet_none Hm.out.is_ k (getT_none.1 Hg.out) pa).mono ?_
    rintro e w1 ⟨rfl, rfl⟩
    go_wp2_with fail
    refine (Hcall.out W .nilIface (Below.refl _ _) (by rw [Hg.out]; rfl)).mono ?_
    rintro e w2 hq
    obtain ⟨b, rfl⟩ := HQ.out e w2 hq
    have Hq := hide hq
    clear hq
    go_wp2_with fail
    refine ⟨_, results_tmp rfl _ _ _, ?_⟩
    exact Hq.out
  | some t =>
    have Hg := hide hg
    clear hg
    go_enter_defers Try.func207, Try.ntmps207
    go_wp2_with fail
    have hmem := getT_mem Hg.out
    refine (mapGet_calls Hm.out.is_ k (List.mem_map.2 ⟨_, hmem, rfl⟩) pa (Hm.out.items k t hmem)).mono ?_
    rintro e w1 ⟨rfl, hw1⟩
    have hb1 : Below W.heap.size W w1 := by rw [← hw1]; exact (Below.refl _ _).alloc (Nat.le_refl _) _
    have hiv : ItemV w1 (getT l2 k) (.iface 182 (.pointer (some ⟨W.heap.size, 0, none⟩))) := by
      rw [Hg.out, ← hw1]
      exact ⟨W.heap.size, val2 k, rfl, by simp [Old], Bk.new _ _ _, ((Hm.out.items k t hmem).keeps (Keeps.alloc _ _ HF.out)).mono fun b hb => Nat.lt_of_lt_of_le (HF.out b hb) (by simp)⟩
    have Hiv := hide (And.intro hiv hb1)
    have h1 := Hh.out.keep (W' := w1) fun b hb _ _ => hb1.block b hb
    clear hw1 hmem q0 q2 q3 hiv hb1
    have q0 := h1.a.cell 0
    have q2 := h1.r.cell 0
    have q3 := h1.f.cell 0
    simp at q0 q2 q3
    go_wp2_with fail
    refine (Hcall.out w1 _ Hiv.out.2 Hiv.out.1).mono ?_
    rintro e w2 hq
    obtain ⟨b, rfl⟩ := HQ.out e w2 hq
    have Hq := hide hq
    clear hq
    go_wp2_with fail
    refine leaves_cons (f := 164) (args := #[.pointer (some pa), .iface 182 (.pointer (some ⟨W.heap.size, 0, none⟩))]) (by simp) (by simp [go_sem, meth_Free]) ?_
    refine (free_deferred pa _ .returning _).mono ?_
    rintro e u' w' ⟨rfl, rfl, rfl⟩
    refine ⟨_, results_tmp rfl _ _ _, ?_⟩
    exact Hq.out

set_option maxRecDepth 100000 in
set_option maxHeartbeats 1000000 in
theorem uClosure2 (n : Nat) (pa : Addr) (r1 r2 : Nat) {ks1 : List ByteArray} {val1 : ByteArray → Value} (k : ByteArray) (rv : Value) (W : World) (h : UCells n pa r1 r2 f cap W) (hm : MapIs W r1 ks1 val1)
    {Q : Ending → World → Prop} (hQ : ∀ e w', Q e w' → ∃ b : Bool, e = .returned (.bool b)) (hin : k ∈ ks1 → Q (.returned (.bool true)) W)
    (hcall : k ∉ ks1 → Calls Try.prog f (#[.string k, .nilIface, rv] ++ cap) W Q) :
    Calls Try.prog 208 #[.string k, rv, .pointer (some ⟨n + 1, 0, none⟩), .pointer (some ⟨n + 3, 0, none⟩)] W Q := by
  have q1 := h.l.cell 0
  have q3 := h.f.cell 0
  simp at q1 q3
  have Hm := hide hm
  have HQ := hide hQ
  have Hcall := hide hcall
  have Hin := hide hin
  clear hm hQ hcall hin h
  by_cases hk : k ∈ ks1
  · have hk' := (hasK_iff k ks1).2 hk
    have Hk := hide (And.intro hk hk')
    clear hk hk'
    go_enter Try.func208, Try.ntmps208
    go_wp2_with fail
    have hcc := mapHas_calls Hm.out k
    rw [Hk.out.2] at hcc
    refine hcc.mono ?_
    clear hcc
    rintro e w1 ⟨rfl, rfl⟩
    go_wp2
    exact Hin.out Hk.out.1
  · have hk' : hasK k ks1 = false := by rw [Bool.eq_false_iff]; exact fun h' => hk ((hasK_iff k ks1).1 h')
    have Hk := hide (And.intro hk hk')
    clear hk hk'
    go_enter Try.func208, Try.ntmps208
    go_wp2_with fail
    have hcc := mapHas_calls Hm.out k
    rw [Hk.out.2] at hcc
    refine hcc.mono ?_
    clear hcc
    rintro e w1 ⟨rfl, rfl⟩
    go_wp2_with fail
    refine (Hcall.out Hk.out.1).mono ?_
    rintro e w2 hq
    obtain ⟨b, rfl⟩ := HQ.out e w2 hq
    have Hq := hide hq
    clear hq
    go_wp2
    exact Hq.out
end

end Go.Proofs.Ytekaainjpddklaa
