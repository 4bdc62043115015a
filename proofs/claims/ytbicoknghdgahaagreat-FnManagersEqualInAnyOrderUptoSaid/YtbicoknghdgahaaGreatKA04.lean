/- Parts: Cz. -/
import Derived.Test.YtbicoknghdgahaaGreatKA02
import Derived.Test.YtbicoknghdgahaaGreatKA03
import Derived.Laws.Externs
import Derived.Defers
set_option linter.unusedVariables false
set_option linter.unusedSimpArgs false
namespace Go.Proofs.YtbicoknghdgahaaGreat
open Go.RowKit
attribute [local go_sem] run_store_float

theorem floatCompare_calls (a b : Nat) (w : World) :
  Calls Tryz.prog 232 #[.float .f64 a, .float .f64 b] w fun e w' => e = .returned (.int .i64 (fcmp a b)) ∧ w = w' := by
 unfold fcmp
 generalize ho : FloatKind.f64.format.order a b = o
 rcases o with _ | (_ | _ | _)
 all_goals
  go_enter Tryz.func232, Tryz.ntmps232
  go_wp2
  go_ret
  exact ⟨rfl, rfl⟩

theorem intCompare_calls (a b : Int) (w : World) :
  Calls Tryz.prog 233 #[.int .i64 a, .int .i64 b] w fun e w' => e = .returned (.int .i64 (cmpI a b)) ∧ w = w' := by
 unfold cmpI
 rcases (by omega : a < b ∨ b < a ∨ a = b) with h | h | h
 ·have h' : ¬ b < a := by omega
  go_enter Tryz.func233, Tryz.ntmps233
  go_wp2
  go_ret
  exact ⟨by simp [h], rfl⟩
 ·have h' : ¬ a < b := by omega
  go_enter Tryz.func233, Tryz.ntmps233
  go_wp2
  go_ret
  exact ⟨by simp [h, h'], rfl⟩
 ·subst h
  go_enter Tryz.func233, Tryz.ntmps233
  go_wp2
  go_ret
  exact ⟨by simp, rfl⟩

theorem boolCompare_calls (a b : Bool) (w : World) :
  Calls Tryz.prog 234 #[.bool a, .bool b] w fun e w' => e = .returned (.int .i64 (cmpB a b)) ∧ w = w' := by
 cases a <;> cases b
 all_goals
  go_enter Tryz.func234, Tryz.ntmps234
  go_wp2
  go_ret
  exact ⟨rfl, rfl⟩

theorem cmpstring_calls (a b : ByteArray) (w : World) :
  Calls Tryz.prog 208 #[.string a, .string b] w fun e w' => e = .returned (.int .i64 (cmpS a b)) ∧ w = w' := by
 have hx : ∀ W : World, (callFunc 231 #[.string a, .string b]).run Tryz.prog W = .ok (.value (.int .i64 (cmpS a b))) W := fun W => by
  rw [run_callFunc_extern Tryz.func231 (by kernel_rfl) (by kernel_rfl) (by kernel_rfl) (e := Extern.BytealgCompare.compare) (by kernel_rfl), Lib.run_compareString]
  rfl
 go_enter Tryz.func208, Tryz.ntmps208
 go_wp2
 go_ret
 exact ⟨rfl, rfl⟩

theorem stringsCompare_calls (a b : ByteArray) (w : World) :
  Calls Tryz.prog 177 #[.string a, .string b] w fun e w' => e = .returned (.int .i64 (cmpS a b)) ∧ w = w' := by
 go_enter Tryz.func177, Tryz.ntmps177
 go_wp2_with (go_at_call 208; refine (cmpstring_calls _ _ _).mono ?_; rintro e w' ⟨rfl, rfl⟩)
 go_ret
 exact ⟨rfl, rfl⟩

end Go.Proofs.YtbicoknghdgahaaGreat

namespace Go.Proofs.YtbicoknghdgahaaGreat
open Go.RowKit

theorem meth_Free (n : Nat) (a : Addr) (w : World) : (method (n + 1) 303 (.pointer (some a)) "Free").run Tryz.prog w = .ok (323, .pointer (some a)) w := by kernel_rfl

def St2 (w : World) (p q : Nat) (u v : Value) (W : World) : Prop := W.cell? ⟨p, 0, none⟩ = some u ∧ W.cell? ⟨q, 0, none⟩ = some v ∧ Below w.heap.size w W
theorem St2.call {w W : World} {p q : Nat} {u v r : Value} {f : FuncId} {args : Array Value} {o : Obj} (h : St2 w p q u v W) (hp : p < w.heap.size) (hq : q < w.heap.size) (hc : Calls Tryz.prog f args W fun e W' => e = .returned r ∧ W.alloc o = W') :
  Calls Tryz.prog f args W fun e W' => e = .returned r ∧ St2 w p q u v W' := by
 refine hc.mono ?_
 rintro e W' ⟨rfl, rfl⟩
 have hs := h.2.2.size
 exact ⟨rfl, (World.cell?_alloc_lt W o ⟨p, 0, none⟩ (by show p < _; omega)).trans h.1, (World.cell?_alloc_lt W o ⟨q, 0, none⟩ (by show q < _; omega)).trans h.2.1, h.2.2.alloc hs _⟩

def CmpPost (c : Int) (w : World) (e : Ending) (w' : World) : Prop := e = .returned (.int .i64 c) ∧ Below w.heap.size w w'
theorem form_flt {F : Nat → Prop} {w : World} {t : T} {v : Value} (h : AnyAt F w t v) (ht : t.isFlt = true) : ∃ f : Nat, t = .flt f ∧ v = .iface 25 (.float .f64 f) := by
 cases h <;> first | exact ⟨_, rfl, rfl⟩ | cases ht
theorem form_int {F : Nat → Prop} {w : World} {t : T} {v : Value} (h : AnyAt F w t v) (ht : t.isInt = true) : ∃ n : Int, t = .int n ∧ v = .iface 2 (.int .i64 n) := by
 cases h <;> first | exact ⟨_, rfl, rfl⟩ | cases ht
theorem form_str {F : Nat → Prop} {w : World} {t : T} {v : Value} (h : AnyAt F w t v) (ht : t.isStr = true) : ∃ s : ByteArray, t = .str s ∧ v = .iface 9 (.string s) := by
 cases h <;> first | exact ⟨_, rfl, rfl⟩ | cases ht
theorem form_bool {F : Nat → Prop} {w : World} {t : T} {v : Value} (h : AnyAt F w t v) (ht : t.isBool = true) : ∃ b : Bool, t = .bool b ∧ v = .iface 4 (.bool b) := by
 cases h <;> first | exact ⟨_, rfl, rfl⟩ | cases ht
end Go.Proofs.YtbicoknghdgahaaGreat

namespace Go.Proofs.YtbicoknghdgahaaGreat
open Go.RowKit

end Go.Proofs.YtbicoknghdgahaaGreat

namespace Go.Proofs.YtbicoknghdgahaaGreat
open Go.RowKit
attribute [local go_sem] run_store_float run_load_k

theorem free_calls (pa : Addr) (x : Value) (w : World) : Calls Tryz.prog 323 #[.pointer (some pa), x] w fun e w' => e = .returned (.tuple #[]) ∧ w = w' := by
 go_enter Tryz.func323, Tryz.ntmps323
 go_wp2
 go_end0
 exact ⟨rfl, rfl⟩
theorem free_deferred (pa : Addr) (x : Value) (u : FrameMode) (w : World) : CallsD Tryz.prog 323 #[.pointer (some pa), x] u w fun e u' w' => u' = u ∧ (e = .returned (.tuple #[]) ∧ w = w') := by
 go_enter_d Tryz.func323, Tryz.ntmps323
 go_wp2
 go_end0
 exact ⟨rfl, rfl⟩

theorem next_calls (g : Nat) (vv : Value) (A : Option Addr) (n c : Nat) (k : Int) (w : World) (hk0 : -1 ≤ k) (hk : k ≤ 9007199254740992) (hB : Bk w g 482 #[.slice A n c, vv, .int .i64 k]) :
  Calls Tryz.prog 360 #[.pointer (some ⟨g, 0, none⟩)] w fun e w' => e = .returned (.bool (decide (k + 1 < (n : Int)))) ∧ ∃ m, (w.setCell ⟨g, 2, none⟩ (.int .i64 (k + 1))).drewN m = w' := by
 have q0 := hB.cell 0
 have q2 := hB.cell 2
 have q3 : ∀ i, w.frozen? ⟨g, i, none⟩ = false := fun i => hB.free i
 simp at q0 q2
 have hgl := hB.lt
 go_enter Tryz.func360, Tryz.ntmps360
 go_wp2_with fail
 have hB' := (hB.set_ 2 (.int .i64 (k + 1)))
 have p0 := hB'.cell 0
 have p2 := hB'.cell 2
 simp at p0 p2
 generalize hW : w.setCell ⟨g, 2, none⟩ (.int .i64 (k + 1)) = W at p0 p2 ⊢
 clear q0 q2 q3 hB hB'
 go_quiet (fail)
 go_wp2
 go_ret
 exact ⟨rfl, _, by rw [hW]⟩

theorem reuse_calls (g : Nat) (x : Value) {F : Nat → Prop} {W : World} {t : T} {u : Value} (h : AnyAt F W t u) (w : World) (hB : Bk w g 343 #[x]) :
  Calls Tryz.prog 172 #[.pointer (some ⟨g, 0, none⟩), u] w fun e w' => e = .returned (.iface 302 (.pointer (some ⟨g, 0, none⟩))) ∧ w.setCell ⟨g, 0, none⟩ u = w' := by
 have q0 := hB.cell 0
 have q3 : ∀ i, w.frozen? ⟨g, i, none⟩ = false := fun i => hB.free i
 simp at q0
 cases h
 all_goals
  go_enter Tryz.func172, Tryz.ntmps172
  go_wp2
  go_ret
  exact ⟨rfl, rfl⟩

structure RangeAt (g gv : Nat) (sv : Value) (k : Nat) (b o : Nat) (u : Value) (W : World) : Prop where
 c0 : W.cell? ⟨g, 0, none⟩ = some sv
 c1 : W.cell? ⟨g, 1, none⟩ = some (.pointer (some ⟨gv, 0, none⟩))
 c2 : W.cell? ⟨g, 2, none⟩ = some (.int .i64 k)
 it : W.cell? ⟨b, o + k, none⟩ = some u

theorem RangeAt.keep {g gv : Nat} {sv : Value} {k b o : Nat} {u : Value} {W : World} (h : RangeAt g gv sv k b o u W) (x : Value) (hgv : gv ≠ g) (hbv : b ≠ gv) : RangeAt g gv sv k b o u (W.setCell ⟨gv, 0, none⟩ x) := by
 have e : ∀ b' i, b' ≠ gv → (W.setCell ⟨gv, 0, none⟩ x).cell? ⟨b', i, none⟩ = W.cell? ⟨b', i, none⟩ := fun b' i hb => by
  unfold World.cell?
  rw [Below.heap_setCell W ⟨gv, 0, none⟩ x b' hb]
 exact ⟨(e _ _ (Ne.symm hgv)).trans h.c0, (e _ _ (Ne.symm hgv)).trans h.c1, (e _ _ (Ne.symm hgv)).trans h.c2, (e _ _ hbv).trans h.it⟩

set_option maxRecDepth 100000 in
theorem item_calls (g gv : Nat) (x : Value) (b o n c k : Nat) (hk : k < n) (hn : n ≤ 9007199254740992) {F : Nat → Prop} {W : World} {t : T} {u : Value} (h : AnyAt F W t u) (w : World)
  (hB : Bk w g 482 #[.slice (some ⟨b, o, none⟩) n c, .pointer (some ⟨gv, 0, none⟩), .int .i64 k]) (hV : Bk w gv 343 #[x]) (hu : w.cell? ⟨b, o + k, none⟩ = some u) (hgv : gv ≠ g) (hbv : b ≠ gv) :
  Calls Tryz.prog 359 #[.pointer (some ⟨g, 0, none⟩)] w fun e w' => e = .returned (.tuple #[.int .i64 k, .iface 302 (.pointer (some ⟨gv, 0, none⟩))]) ∧ ∃ m1 m2, ((w.drewN m1).setCell ⟨gv, 0, none⟩ u).drewN m2 = w' := by
 have q0 := hB.cell 0
 have q1 := hB.cell 1
 have q2 := hB.cell 2
 simp at q0 q1 q2
 have hki0 : (0 : Int) ≤ (k : Int) := Int.natCast_nonneg _
 have hki1 : (k : Int) < (n : Int) := by omega
 have hki2 : ¬ (n : Int) ≤ (k : Int) := by omega
 have hki3 : ¬ (k : Int) < 0 := by omega
 have HB := hide hB
 have HV := hide hV
 have Hh := hide h
 clear hB hV h
 go_enter Tryz.func359, Tryz.ntmps359
 go_wp2_with fail
 go_quiet (fail)
 go_wp2_with fail
 rename_i nqq _ _ _
 generalize hW : w.drewN _ = W1
 have hB1 : Bk W1 g 482 #[.slice (some ⟨b, o, none⟩) n c, .pointer (some ⟨gv, 0, none⟩), .int .i64 k] := by rw [← hW]; exact HB.out
 have hV1 : Bk W1 gv 343 #[x] := by rw [← hW]; exact HV.out
 have hu1 : W1.cell? ⟨b, o + k, none⟩ = some u := by rw [← hW]; exact hu
 have hS0 : RangeAt g gv (.slice (some ⟨b, o, none⟩) n c) k b o u W1.drew := ⟨hB1.cell 0, hB1.cell 1, hB1.cell 2, hu1⟩
 generalize hS : RangeAt g gv (.slice (some ⟨b, o, none⟩) n c) k b o u = S at hS0
 refine wp_region_head 19 S (by rfl) (by kernel_rfl) ?_
 iterate 18
  refine HT.nx (v := ?_) rfl (by kernel_rfl) (fun _ _ _ h => h) (Or.inl ⟨by rfl, ?_⟩) ‹_› ?_
  rotate_left
  ·intro W hSw; rw [← hS] at hSw; obtain ⟨s1, s2, s3, s4⟩ := hSw; go_simp; with_reducible rfl
  simp only [Act.put, zzA, zzZ, zzS]
 refine HT.one 18 rfl (by kernel_rfl) (by rfl) (fun K hK => ?_)
 go_simp
 refine (reuse_calls gv x Hh.out W1.drew hV1).mono ?_
 rintro e w1 ⟨rfl, rfl⟩
 go_simp
 refine hK.out _ _ (by rw [← hS] at hS0 ⊢; exact hS0.keep u hgv hbv) ?_
 refine HT.done (by kernel_rfl) ?_
 simp only [List.drop_succ_cons, List.drop_zero]
 clear hS0 hS hK
 go_wp2
 refine bodyPost_ret (results_tmp2 rfl _ _ _) rfl ?_
 subst hW
 exact ⟨rfl, _ + 1, 0, rfl⟩

theorem meth_RangeUsing (n : Nat) (v : Value) (w : World) : (method (n + 1) 452 v "RangeUsing").run Tryz.prog w = .ok (336, v) w := by kernel_rfl
theorem meth_Next (n : Nat) (a : Addr) (w : World) : (method (n + 1) 476 (.pointer (some a)) "Next").run Tryz.prog w = .ok (360, .pointer (some a)) w := by kernel_rfl
theorem meth_Item (n : Nat) (a : Addr) (w : World) : (method (n + 1) 476 (.pointer (some a)) "Item").run Tryz.prog w = .ok (359, .pointer (some a)) w := by kernel_rfl
theorem meth_allocRange (n : Nat) (a : Addr) (w : World) : (method (n + 1) 303 (.pointer (some a)) "pub-coparcener/pub/structuredmerge/value.allocListUnstructuredRange").run Tryz.prog w = .ok (324, .pointer (some a)) w := by kernel_rfl
theorem meth_allocVu (n : Nat) (a : Addr) (w : World) : (method (n + 1) 303 (.pointer (some a)) "pub-coparcener/pub/structuredmerge/value.allocValueUnstructured").run Tryz.prog w = .ok (171, .pointer (some a)) w := by kernel_rfl
theorem meth_emptyNext (n : Nat) (a : Addr) (w : World) : (method (n + 1) 479 (.pointer (some a)) "Next").run Tryz.prog w = .ok (362, .pointer (some a)) w := by kernel_rfl

theorem emptyNext_calls (a : Addr) (w : World) : Calls Tryz.prog 362 #[.pointer (some a)] w fun e w' => e = .returned (.bool false) ∧ w = w' := by
 go_enter Tryz.func362, Tryz.ntmps362
 go_wp2
 go_ret
 exact ⟨rfl, rfl⟩

attribute [local go_sem] meth_allocRange

theorem rangeUsing_calls (A : Option Addr) (n c : Nat) (hn : 0 < n) (pa : Addr) (w : World) :
  Calls Tryz.prog 336 #[.slice A n c, .iface 303 (.pointer (some pa))] w fun e w' => e = .returned (.iface 476 (.pointer (some ⟨w.heap.size + 1, 0, none⟩))) ∧
   (w.alloc (.cells #[.nilIface] 343)).alloc (.cells #[.slice A n c, .pointer (some ⟨w.heap.size, 0, none⟩), .int .i64 (-1)] 482) = w' := by
 have hn1 : ¬ (n : Int) = 0 := by omega
 go_enter Tryz.func336, Tryz.ntmps336
 go_wp2
 go_ret
 exact ⟨rfl, rfl⟩
theorem rangeUsing_empty (A : Option Addr) (c : Nat) (pa : Addr) (w : World) :
  Calls Tryz.prog 336 #[.slice A 0 c, .iface 303 (.pointer (some pa))] w fun e w' => e = .returned (.iface 479 (.pointer (some ⟨w.heap.size, 0, none⟩))) ∧
   w.alloc (.cells #[] 480) = w' := by
 go_enter Tryz.func336, Tryz.ntmps336
 go_wp2
 go_ret
 exact ⟨rfl, rfl⟩
end Go.Proofs.YtbicoknghdgahaaGreat

namespace Go.Proofs.YtbicoknghdgahaaGreat
open Go.RowKit
attribute [local go_sem] run_store_float run_load_k meth_allocVu

theorem mapLength_calls {r : Nat} {ks : List ByteArray} {val : ByteArray → Value} {w : World} (h : MapIs w r ks val) :
  Calls Tryz.prog 347 #[.map (some r)] w fun e w' => e = .returned (.int .i64 (ks.length : Int)) ∧ w = w' := by
 have hl := h.run_len Tryz.underlying453
 go_enter Tryz.func347, Tryz.ntmps347
 go_wp2
 go_ret
 exact ⟨rfl, rfl⟩

def hasK (k : ByteArray) (ks : List ByteArray) : Bool := ks.any fun x => decide (x = k)
theorem hasK_iff (k : ByteArray) (ks : List ByteArray) : hasK k ks = true ↔ k ∈ ks := by
 unfold hasK
 simp

theorem mapHas_calls {r : Nat} {ks : List ByteArray} {val : ByteArray → Value} {w : World} (h : MapIs w r ks val) (k : ByteArray) :
  Calls Tryz.prog 344 #[.map (some r), .string k] w fun e w' => e = .returned (.bool (hasK k ks)) ∧ w = w' := by
 by_cases hk : k ∈ ks
 ·have hl := (h.lookup_ok Tryz.underlying453 Tryz.underlying9 k hk).1
  go_enter Tryz.func344, Tryz.ntmps344
  go_wp2
  go_ret
  exact ⟨by rw [(hasK_iff k ks).2 hk]; rfl, rfl⟩
 ·have hl := (h.lookup_no Tryz.underlying453 Tryz.underlying9 (z := .nilIface) (by kernel_rfl) k hk).1
  go_enter Tryz.func344, Tryz.ntmps344
  go_wp2
  go_ret
  have hf : hasK k ks = false := by rw [Bool.eq_false_iff]; exact fun h' => hk ((hasK_iff k ks).1 h')
  exact ⟨by rw [hf]; rfl, rfl⟩

set_option maxRecDepth 100000 in
set_option maxHeartbeats 1000000 in
theorem mapGet_calls {r : Nat} {ks : List ByteArray} {val : ByteArray → Value} {w : World} (h : MapIs w r ks val) (k : ByteArray) (hk : k ∈ ks) (pa : Addr) {F : Nat → Prop} {W : World} {t : T} (ht : AnyAt F W t (val k)) :
  Calls Tryz.prog 343 #[.map (some r), .iface 303 (.pointer (some pa)), .string k] w fun e w' => e = .returned (.tuple #[.iface 302 (.pointer (some ⟨w.heap.size, 0, none⟩)), .bool true]) ∧ w.alloc (.cells #[val k] 343) = w' := by
 have hl := (h.lookup_ok Tryz.underlying453 Tryz.underlying9 k hk).1
 generalize val k = u at ht hl
 cases ht
 all_goals
  go_enter Tryz.func343, Tryz.ntmps343
  go_wp2
  refine bodyPost_ret (results_tmp2 rfl _ _ _) rfl ?_
  exact ⟨rfl, rfl⟩
theorem mapGet_none {r : Nat} {ks : List ByteArray} {val : ByteArray → Value} {w : World} (h : MapIs w r ks val) (k : ByteArray) (hk : k ∉ ks) (pa : Addr) :
  Calls Tryz.prog 343 #[.map (some r), .iface 303 (.pointer (some pa)), .string k] w fun e w' => e = .returned (.tuple #[.nilIface, .bool false]) ∧ w = w' := by
 have hl := (h.lookup_no Tryz.underlying453 Tryz.underlying9 (z := .nilIface) (by kernel_rfl) k hk).1
 go_enter Tryz.func343, Tryz.ntmps343
 go_wp2
 refine bodyPost_ret (results_tmp2 rfl _ _ _) rfl ?_
 exact ⟨rfl, rfl⟩

end Go.Proofs.YtbicoknghdgahaaGreat

namespace Go.Proofs.YtbicoknghdgahaaGreat
open Go.RowKit
attribute [local go_sem] run_store_float run_load_k meth_allocVu meth_Free

structure ButTwo (g : Nat) (W W' : World) : Prop where
 os : W'.os = W.os
 tape : W'.tape = W.tape
 output : W'.output = W.output
 size : W.heap.size ≤ W'.heap.size
 block : ∀ b, b < W.heap.size → b ≠ g → b ≠ g + 1 → W'.heap[b]? = W.heap[b]?

theorem MapRange.left_length {w : World} {it r : Nat} {ks : List ByteArray} {val : ByteArray → Value} {l l' : List ByteArray} (h : MapRange w it r ks val l) (h' : MapRange w it r ks val l') : l.length = l'.length := by
 obtain ⟨es, clock, seen, c0, hb, _, _, _, h2, hi, _, hn, hs, hl⟩ := h.ex
 obtain ⟨es', clock', seen', c0', hb', _, _, _, _, hi', _, hn', hs', hl'⟩ := h'.ex
 rw [hb] at hb'
 cases hb'
 rw [hi] at hi'
 cases hi'
 refine List.Perm.length_eq ((List.perm_ext_iff_of_nodup hn hn').2 fun k => ⟨fun hk => ?_, fun hk => ?_⟩)
 ·obtain ⟨e, he, hek⟩ := h2 k (hs k hk)
  exact (hl' e he k hek).2 ((hl e he k hek).1 hk)
 ·obtain ⟨e, he, hek⟩ := h2 k (hs' k hk)
  exact (hl e he k hek).2 ((hl' e he k hek).1 hk)
open Classical in
noncomputable def itMes (it r : Nat) (ks : List ByteArray) (val : ByteArray → Value) (wr : World) : Nat := if h : ∃ left, MapRange wr it r ks val left then (Classical.choose h).length else 0
theorem itMes_at {it r : Nat} {ks : List ByteArray} {val : ByteArray → Value} {wr : World} {left : List ByteArray} (h : MapRange wr it r ks val left) : itMes it r ks val wr = left.length := by
 unfold itMes
 have he : ∃ left, MapRange wr it r ks val left := ⟨left, h⟩
 rw [dif_pos he]
 exact (Classical.choose_spec he).left_length h

theorem perm_pick {vis left : List ByteArray} {k : ByteArray} (hk : k ∈ left) (hn : left.Nodup) : (vis ++ [k] ++ left.filter fun x => decide (x ≠ k)).Perm (vis ++ left) := by
 rw [List.append_assoc]
 refine List.Perm.append_left vis ?_
 refine (List.perm_ext_iff_of_nodup ?_ hn).2 fun x => ?_
 ·rw [List.singleton_append, List.nodup_cons]
  exact ⟨by simp, hn.filter _⟩
 ·simp only [List.singleton_append, List.mem_cons, List.mem_filter, decide_eq_true_eq]
  constructor
  ·rintro (rfl | h)
   ·exact hk
   ·exact h.1
  ·intro h
   by_cases e : x = k
   ·exact .inl e
   ·exact .inr ⟨h, e⟩
theorem filter_less {left : List ByteArray} {k : ByteArray} (hk : k ∈ left) : (left.filter fun x => decide (x ≠ k)).length < left.length := by
 rw [List.length_filter_lt_length_iff_exists]
 exact ⟨k, hk, by simp⟩

def ItInv (g r : Nat) (ks : List ByteArray) (val : ByteArray → Value) (J : List ByteArray → World → Prop) (wr : World) : Prop :=
 ∃ vis left, MapRange wr (g + 1) r ks val left ∧ (vis ++ left).Perm ks ∧ (∃ x, Bk wr g 343 #[x]) ∧ J vis wr

set_option maxRecDepth 100000 in
set_option maxHeartbeats 1000000 in
theorem iterate_none {r : Nat} {val : ByteArray → Value} {w : World} (h : MapIs w r [] val) (pa : Addr) (fv : Value) :
  Calls Tryz.prog 346 #[.map (some r), .iface 303 (.pointer (some pa)), fv] w fun e w' => e = .returned (.bool true) ∧ w = w' := by
 have hl := h.run_len (P := Tryz.prog) Tryz.underlying453
 go_enter_defers Tryz.func346, Tryz.ntmps346
 go_wp2
 exact ⟨_, results_tmp rfl _ _ _, rfl, rfl⟩

set_option maxRecDepth 100000 in
set_option maxHeartbeats 1000000 in
theorem iterate_some {r : Nat} {ks : List ByteArray} {val : ByteArray → Value} {w : World} (h : MapIs w r ks val) (hne : ks ≠ []) (pa : Addr) (f : FuncId) (cap : Array Value) (hcf : ∀ (args : Array Value) (W : World), (callFunc f args).run Tryz.prog W = .ok (.enter f args) W) (J : List ByteArray → World → Prop) (Jf : World → Prop)
  (hJ0 : J [] w) (hval : ∀ k ∈ ks, ∃ F W t, AnyAt F W t (val k))
  (hJ : ∀ vis W W', J vis W → w.heap.size + 2 ≤ W.heap.size → ButTwo w.heap.size W W' → J vis W')
  (hJs : ∀ vis W', J vis w → Below w.heap.size w W' → J vis W')
  (hstep : ∀ vis k W, k ∈ ks → k ∉ vis → J vis W → w.heap.size + 2 ≤ W.heap.size → Bk W w.heap.size 343 #[val k] → MapIs W r ks val →
   Calls Tryz.prog f (#[.string k, .iface 302 (.pointer (some ⟨w.heap.size, 0, none⟩))] ++ cap) W fun e W' => ((e = .returned (.bool true) ∧ J (vis ++ [k]) W') ∨ (e = .returned (.bool false) ∧ Jf W')) ∧ W'.heap[r]? = W.heap[r]? ∧ W'.heap[w.heap.size]? = W.heap[w.heap.size]? ∧ W'.heap[w.heap.size + 1]? = W.heap[w.heap.size + 1]?) :
  Calls Tryz.prog 346 #[.map (some r), .iface 303 (.pointer (some pa)), .func (.func f) #[] cap] w fun e w' => (e = .returned (.bool true) ∧ ∃ vis, vis.Perm ks ∧ J vis w') ∨ (e = .returned (.bool false) ∧ Jf w') := by
 have hl := h.run_len (P := Tryz.prog) Tryz.underlying453
 have hlen : ¬ (ks.length : Int) = 0 := by
  intro h0
  exact hne (List.length_eq_zero_iff.1 (by omega))
 have hg0 : MapIs (w.alloc (.cells #[.nilIface] 343)) r ks val := h.keep (Below.heap_alloc _ _ _ h.lt)
 obtain ⟨hrg, hmr⟩ := hg0.range (P := Tryz.prog) Tryz.underlying453
 have Hmr := hide hmr
 have Hs := hide hstep
 have HJ := hide hJ
 have HJ0 := hide (hJs [])
 have Hv := hide hval
 clear hmr hstep hJ hJs hval
 generalize hit : Obj.mapIter _ _ _ _ = io at Hmr hrg
 go_enter_defers Tryz.func346, Tryz.ntmps346
 go_wp2
 go_loopw [8] (fun _ wr => w.heap.size + 2 ≤ wr.heap.size ∧ ItInv w.heap.size r ks val J wr) (fun _ wr => itMes (w.heap.size + 1) r ks val wr)
 case atStart =>
  refine ⟨by simp, [], ks, ?_, by simp, ⟨.nilIface, (Bk.new w _ _).alloc _⟩, HJ0.out _ hJ0 (((Below.refl _ _).alloc (Nat.le_refl _) _).alloc (by simp) _)⟩
  have := Hmr.out
  simpa using this
 case round =>
  obtain ⟨hsz, vis, left, hmr, hperm, ⟨x, hx⟩, hj⟩ := hrel
  rcases hmr.next (P := Tryz.prog) 0 with ⟨rfl, hrun⟩ | ⟨k, w2, hk, hrun, hmr2, hgrow, hsize, hent⟩
  ·go_wp2
   refine leaves_cons (f := 323) (args := #[.pointer (some pa), .iface 302 (.pointer (some ⟨w.heap.size, 0, none⟩))]) (by simp) (by simp [go_sem, meth_Free]) ?_
   refine (free_deferred pa _ .returning _).mono ?_
   rintro e u' w' ⟨rfl, rfl, rfl⟩
   exact ⟨_, results_tmp rfl _ _ _, .inl ⟨rfl, vis, by simpa using hperm, hj⟩⟩
  ·have hkk : k ∈ ks := hperm.subset (List.mem_append_right _ hk)
   obtain ⟨F0, W0, t0, hany⟩ := Hv.out k hkk
   have hx2 : Bk w2 w.heap.size 343 #[x] := hx.grown hgrow (by simp)
   have Hx2 := hide hx2
   have Hany := hide hany
   clear hx2 hany
   go_wp2_with fail
   refine (reuse_calls w.heap.size x Hany.out w2 Hx2.out).mono ?_
   rintro e w3 ⟨rfl, hw3⟩
   have hnd : (vis ++ left).Nodup := hperm.nodup_iff.2 hmr.is_.nodup
   have hknot : k ∉ vis := fun hv => (List.nodup_append.1 hnd).2.2 k hv k hk rfl
   have hg2 : w.heap.size + 2 ≤ w2.heap.size := by omega
   have hb2 : ButTwo w.heap.size wr w3 := by
    subst hw3
    exact ⟨hgrow.os, hgrow.tape, hgrow.output, by simp; omega, fun b hb h1 h2 => (Below.heap_setCell _ _ _ _ h1).trans (hgrow.block b hb (by simpa using h2))⟩
   have hj3 : J vis w3 := HJ.out vis wr w3 hj hsz hb2
   have hB3 : Bk w3 w.heap.size 343 #[val k] := by subst hw3; simpa using Hx2.out.set_ 0 (val k)
   have hr2 : MapRange w3 (w.heap.size + 1) r ks val (left.filter fun x => decide (x ≠ k)) := by
    subst hw3
    exact hmr2.keep (Below.heap_setCell _ _ _ _ (by have := h.lt; simp; omega)) (Below.heap_setCell _ _ _ _ (by simp))
   have h3s : w.heap.size + 2 ≤ w3.heap.size := by subst hw3; simpa using hg2
   have Hcall := hide (Hs.out vis k w3 hkk hknot hj3 h3s hB3 hr2.is_)
   have H3 := hide (And.intro hB3 (And.intro hr2 h3s))
   clear hnd hg2 hb2 hj3 hB3 hr2 h3s
   go_wp2_with fail
   refine Hcall.out.mono ?_
   rintro e w4 ⟨he, hk1, hk2, hk3⟩
   have hr4 := hide (H3.out.2.1.keep (w' := w4) hk1 hk3)
   have hB4 : Hid (Bk w4 w.heap.size 343 #[val k]) := hide (hk2.trans H3.out.1)
   clear hk1 hk2 hk3
   rcases he with ⟨rfl, hj4⟩ | ⟨rfl, hjf⟩
   ·have Hj4 := hide hj4
    clear hj4
    go_wp2_with fail
    refine ⟨⟨hr4.out.lt, vis ++ [k], _, hr4.out, ?_, ⟨_, hB4.out⟩, Hj4.out⟩, ?_⟩
    ·refine List.Perm.trans ?_ hperm
     exact perm_pick hk ((List.nodup_append.1 (hperm.nodup_iff.2 hmr.is_.nodup)).2.1)
    ·rw [itMes_at hr4.out, itMes_at hmr]
     exact filter_less hk
   ·have Hjf := hide hjf
    clear hjf
    go_wp2_with fail
    refine leaves_cons (f := 323) (args := #[.pointer (some pa), .iface 302 (.pointer (some ⟨w.heap.size, 0, none⟩))]) (by simp) (by simp [go_sem, meth_Free]) ?_
    refine (free_deferred pa _ .returning _).mono ?_
    rintro e u' w' ⟨rfl, rfl, rfl⟩
    exact ⟨_, results_tmp rfl _ _ _, .inr ⟨rfl, Hjf.out⟩⟩

end Go.Proofs.YtbicoknghdgahaaGreat
