/-
  value.MapEquals, and the thin package's comparisons of lists and maps.
-/
import Derived.Test.YtekaainjpddklaaUzip2
set_option linter.unusedVariables false
set_option linter.unusedSimpArgs false
namespace Go.Proofs.Ytekaainjpddklaa
open Go.RowKit
theorem meth_AsList (n : Nat) (a : Addr) (w : World) : (method (n + 1) 182 (.pointer (some a)) "AsList").run Try.prog w = (Sem.load .plain a fun v => .pure (168, .agg #[v])).run Try.prog w := by kernel_rfl
theorem meth_AsMap (n : Nat) (a : Addr) (w : World) : (method (n + 1) 182 (.pointer (some a)) "AsMap").run Try.prog w = (Sem.load .plain a fun v => .pure (170, .agg #[v])).run Try.prog w := by kernel_rfl
attribute [local go_sem] run_store_float run_load_k meth_Free meth_Length meth_IterateUsing meth_GetUsing meth_Has meth_Empty meth_ZipUsing meth_AsList meth_AsMap

section
variable {l1 l2 : List (ByteArray × T)} {r1 r2 : Nat} {val1 val2 : ByteArray → Value} {F : Nat → Prop} {w : World} {f : FuncId} {cap : Array Value} {S : Nat → Prop} {J : List ByteArray → World → Prop} {Jf : World → Prop}

theorem UStep.alloc (h : UStep f cap l1 l2 w S J Jf) {W : World} (hb : Below w.heap.size w W) : UStep f cap l1 l2 W S J Jf :=
  ⟨fun W' hW => h.start W' (hb.trans (hW.mono hb.size)), fun vis X X' hj hs => h.keep vis X X' hj ⟨hs.os, hs.tape, hs.output, hs.size, fun b hb' => hs.block b (Nat.lt_of_lt_of_le hb' hb.size)⟩, fun vis k X lv rv hk hnk hj hX h1 h2 => h.step vis k X lv rv hk hnk hj (Nat.le_trans hb.size hX) h1 h2⟩
theorem UPost.of_below {e : Ending} {w' W : World} (hb : Below w.heap.size w W) (h : UPost l1 l2 W S J Jf e w') : UPost l1 l2 w S J Jf e w' :=
  ⟨h.1, (ButS.below (S := S) hb).trans h.2 fun _ _ h => h⟩

theorem defaultUzip_calls (hF : ∀ b, F b → b < w.heap.size ∧ ¬ S b) (hS : ∀ b, S b → b < w.heap.size) (hcf : ∀ (args : Array Value) (W : World), (callFunc f args).run Try.prog W = .ok (.enter f args) W)
    (h1 : MapAt F w r1 l1 val1) (h2 : MapAt F w r2 l2 val2) (pa : Addr) (hs : UStep f cap l1 l2 w S J Jf) :
    Calls Try.prog 204 #[.iface 178 (.pointer (some pa)), .iface 281 (.map (some r1)), .iface 281 (.map (some r2)), .int .i64 0, .func (.func f) #[] cap] w (UPost l1 l2 w S J Jf) := by
  have Hz := hide (uzip_calls hF hS hcf h1 h2 pa hs)
  clear hs h1 h2
  go_enter Try.func204, Try.ntmps204
  go_wp2_with fail
  refine Hz.out.mono ?_
  rintro e w' ⟨(⟨rfl, h⟩ | ⟨rfl, h⟩), hb⟩
  · have H := hide (show UPost l1 l2 w S J Jf (.returned (.bool true)) w' from ⟨.inl ⟨rfl, h⟩, hb⟩)
    clear h hb
    go_wp2
    go_ret
    exact H.out
  · have H := hide (show UPost l1 l2 w S J Jf (.returned (.bool false)) w' from ⟨.inr ⟨rfl, h⟩, hb⟩)
    clear h hb
    go_wp2
    go_ret
    exact H.out

theorem uzipUsing_calls (hF : ∀ b, F b → b < w.heap.size ∧ ¬ S b) (hS : ∀ b, S b → b < w.heap.size) (hcf : ∀ (args : Array Value) (W : World), (callFunc f args).run Try.prog W = .ok (.enter f args) W)
    (h1 : MapAt F w r1 l1 val1) (h2 : MapAt F w r2 l2 val2) (pa : Addr) (hs : UStep f cap l1 l2 w S J Jf) :
    Calls Try.prog 202 #[.map (some r1), .iface 178 (.pointer (some pa)), .iface 281 (.map (some r2)), .int .i64 0, .func (.func f) #[] cap] w (UPost l1 l2 w S J Jf) := by
  have Hz := hide (defaultUzip_calls hF hS hcf h1 h2 pa hs)
  clear hs h1 h2
  go_enter Try.func202, Try.ntmps202
  go_wp2_with fail
  refine Hz.out.mono ?_
  rintro e w' ⟨(⟨rfl, h⟩ | ⟨rfl, h⟩), hb⟩
  · have H := hide (show UPost l1 l2 w S J Jf (.returned (.bool true)) w' from ⟨.inl ⟨rfl, h⟩, hb⟩)
    clear h hb
    go_wp2
    go_ret
    exact H.out
  · have H := hide (show UPost l1 l2 w S J Jf (.returned (.bool false)) w' from ⟨.inr ⟨rfl, h⟩, hb⟩)
    clear h hb
    go_wp2
    go_ret
    exact H.out

theorem mapUzipUsing_calls (hF : ∀ b, F b → b < w.heap.size ∧ ¬ S b) (hS : ∀ b, S b → b < w.heap.size) (hcf : ∀ (args : Array Value) (W : World), (callFunc f args).run Try.prog W = .ok (.enter f args) W)
    (h1 : MapAt F w r1 l1 val1) (h2 : MapAt F w r2 l2 val2) (pa : Addr) (hs : UStep f cap l1 l2 w S J Jf) :
    Calls Try.prog 108 #[.iface 178 (.pointer (some pa)), .iface 281 (.map (some r1)), .iface 281 (.map (some r2)), .int .i64 0, .func (.func f) #[] cap] w (UPost l1 l2 w S J Jf) := by
  have Hz : ∀ W, Below w.heap.size w W → Calls Try.prog 202 #[.map (some r1), .iface 178 (.pointer (some pa)), .iface 281 (.map (some r2)), .int .i64 0, .func (.func f) #[] cap] W (UPost l1 l2 w S J Jf) := by
    intro W hb
    refine (uzipUsing_calls (fun b hb' => ⟨Nat.lt_of_lt_of_le (hF b hb').1 hb.size, (hF b hb').2⟩) (fun b hb' => Nat.lt_of_lt_of_le (hS b hb') hb.size) hcf (h1.below (fun b hb' => (hF b hb').1) hb) (h2.below (fun b hb' => (hF b hb').1) hb) pa (hs.alloc hb)).mono ?_
    exact fun e w' h => h.of_below hb
  have Hz := hide Hz
  clear hs h1 h2 hF hS
  go_enter Try.func108, Try.ntmps108
  go_wp2_with fail
  refine (Hz.out _ ((Below.refl _ _).alloc (Nat.le_refl _) _)).mono ?_
  rintro e w' ⟨(⟨rfl, h⟩ | ⟨rfl, h⟩), hb⟩
  · have H := hide (show UPost l1 l2 w S J Jf (.returned (.bool true)) w' from ⟨.inl ⟨rfl, h⟩, hb⟩)
    clear h hb
    go_wp2
    go_ret
    exact H.out
  · have H := hide (show UPost l1 l2 w S J Jf (.returned (.bool false)) w' from ⟨.inr ⟨rfl, h⟩, hb⟩)
    clear h hb
    go_wp2
    go_ret
    exact H.out
end

set_option maxRecDepth 100000 in
set_option maxHeartbeats 1000000 in
/-- value.MapEqualsUsing -/
theorem mapEqualsUsing_calls {l1 l2 : List (ByteArray × T)} {r1 r2 : Nat} {val1 val2 : ByteArray → Value} {w : World} (h1 : MapAt (Old w) w r1 l1 val1) (h2 : MapAt (Old w) w r2 l2 val2) (pa : Addr) :
    Calls Try.prog 124 #[.iface 178 (.pointer (some pa)), .iface 281 (.map (some r1)), .iface 281 (.map (some r2))] w (EqPost (T.eqvM l1 l2) w) := by
  have hb0 : ∀ o : Obj, Below w.heap.size w (w.alloc o) := fun o => (Below.refl _ _).alloc (Nat.le_refl _) _
  have Hm := fun o => hide (And.intro (h1.below (fun _ h => h) (hb0 o)) (h2.below (fun _ h => h) (hb0 o)))
  by_cases hl : l1.length = l2.length
  · obtain ⟨c, hcv⟩ : ∃ c, T.eqvM l1 l2 = c := ⟨_, rfl⟩
    have Hz : Hid (Calls Try.prog 108 #[.iface 178 (.pointer (some pa)), .iface 281 (.map (some r1)), .iface 281 (.map (some r2)), .int .i64 0, .func (.func 141) #[] #[.pointer (some ⟨w.heap.size, 0, none⟩)]] (w.alloc (.cells #[.iface 178 (.pointer (some pa))] 214)) (EqPost c w)) := by
      refine hide ((mapUzipUsing_calls (F := Old w) (fun b hb => ⟨Nat.lt_of_lt_of_le hb (by simp), id⟩) (fun b hb => hb.elim) (fun args W => by kernel_rfl) (h1.below (fun _ h => h) (hb0 _)) (h2.below (fun _ h => h) (hb0 _)) pa (meqZip h1.sorted h2.sorted pa w.heap.size _ (by simp) (Bk.new w _ _))).mono ?_)
      rintro e w' ⟨he, hb⟩
      have hbw : Below w.heap.size w w' := ⟨hb.os, hb.tape, hb.output, Nat.le_trans (by simp) hb.size, fun b hb' => (hb.block b (by simp; omega) id).trans (Below.heap_alloc _ _ _ hb')⟩
      rcases he with ⟨rfl, vis, hp, hall, _⟩ | ⟨rfl, k, hk, hf⟩
      · have : T.eqvM l1 l2 = true := (eqvM_iff' h1.sorted h2.sorted).2 ⟨hl, fun k hk => hall k (hp.mem_iff.2 (mem_bothK2 hk))⟩
        rw [hcv] at this
        subst this
        exact ⟨rfl, hbw⟩
      · have : T.eqvM l1 l2 = false := by
          rw [Bool.eq_false_iff]
          intro h
          have hk2 : k ∈ l2.map Prod.fst := by
            rcases (mem_mergeK _ _ _).1 hk with h' | h'
            · rw [← eqvM_keys h]; exact h'
            · exact h'
          have := ((eqvM_iff' h1.sorted h2.sorted).1 h).2 k hk2
          rw [hf] at this
          cases this
        rw [hcv] at this
        subst this
        exact ⟨rfl, hbw⟩
    rw [hcv]
    have hi : (l1.length : Int) = (l2.length : Int) := by omega
    clear hcv hl h1 h2 hb0
    go_enter Try.func124, Try.ntmps124
    go_wp2_with fail
    refine (mapLength_calls (Hm _).out.1.is_).mono ?_
    rintro e w1 ⟨rfl, rfl⟩
    go_wp2_with fail
    refine (mapLength_calls (Hm _).out.2.is_).mono ?_
    rintro e w1 ⟨rfl, rfl⟩
    go_wp2_with fail
    refine Hz.out.mono ?_
    rintro e w2 ⟨rfl, hb⟩
    have Hb := hide hb
    clear hb
    go_wp2
    go_ret
    exact ⟨rfl, Hb.out⟩
  · have hf : T.eqvM l1 l2 = false := by
      rw [Bool.eq_false_iff]
      exact fun h => hl ((eqvM_iff' h1.sorted h2.sorted).1 h).1
    rw [hf]
    have hi : ¬ (l1.length : Int) = (l2.length : Int) := by omega
    clear hf hl h1 h2
    go_enter Try.func124, Try.ntmps124
    go_wp2_with fail
    refine (mapLength_calls (Hm _).out.1.is_).mono ?_
    rintro e w1 ⟨rfl, rfl⟩
    go_wp2_with fail
    refine (mapLength_calls (Hm _).out.2.is_).mono ?_
    rintro e w1 ⟨rfl, rfl⟩
    go_wp2
    go_ret
    exact ⟨rfl, hb0 _⟩

/-- a list of the package -/
structure ListAt (F : Nat → Prop) (w : World) (A : Option Addr) (l : List T) : Prop where
  small : l.length * 88 ≤ R47
  ex : ∃ xs, Row F w 1 A l.length xs ∧ AnysAt F w l xs
theorem ListAt.up {F : Nat → Prop} {w : World} {A : Option Addr} {l : List T} (h : ListAt F w A l) (hF : ∀ b, F b → b < w.heap.size) {W : World} (hb : Below w.heap.size w W) : ListAt (Old W) W A l := by
  obtain ⟨h1, xs, h2, h3⟩ := h
  have hk : Keeps F w W := Keeps.below hb hF
  have hm : ∀ b, F b → Old W b := fun b h => Nat.lt_of_lt_of_le (hF b h) hb.size
  exact ⟨h1, xs, (h2.keeps hk).mono hm, h3.keeps hk hm⟩
theorem ListAt.of_any {F : Nat → Prop} {w : World} {l : List T} {v : Value} (h : AnyAt F w (.list l) v) : ∃ A c, v = .iface 184 (.slice A l.length c) ∧ ListAt F w A l := by
  cases h with
  | list h1 h2 h3 h4 h5 => exact ⟨_, _, rfl, h1, _, h4, h5⟩
theorem mapCompareV_calls {l1 l2 : List (ByteArray × T)} {r1 r2 : Nat} {val1 val2 : ByteArray → Value} {w : World} (h1 : MapAt (Old w) w r1 l1 val1) (h2 : MapAt (Old w) w r2 l2 val2) :
    Calls Try.prog 86 #[.iface 281 (.map (some r1)), .iface 281 (.map (some r2))] w (CmpPost (T.cmpM l1 l2) w) := by
  have hb0 : ∀ o : Obj, Below w.heap.size w (w.alloc o) := fun o => (Below.refl _ _).alloc (Nat.le_refl _) _
  have Hc := fun o => hide (mapCompare_calls (w := w.alloc o) (fun k a _ j b _ => cmp_all a b) ((h1.below (fun _ h => h) (hb0 o)).mono fun b hb => Nat.lt_of_lt_of_le hb (by simp)) ((h2.below (fun _ h => h) (hb0 o)).mono fun b hb => Nat.lt_of_lt_of_le hb (by simp)) ⟨w.heap.size, 0, none⟩)
  generalize T.cmpM l1 l2 = c at Hc
  clear h1 h2
  go_enter Try.func86, Try.ntmps86
  go_wp2_with fail
  refine (Hc _).out.mono ?_
  rintro e w1 ⟨rfl, hb⟩
  have Hb := hide ((hb0 _).trans (hb.mono (by simp)))
  clear hb Hc hb0
  go_wp2
  go_ret
  exact ⟨rfl, Hb.out⟩

theorem mapEqualsV_calls {l1 l2 : List (ByteArray × T)} {r1 r2 : Nat} {val1 val2 : ByteArray → Value} {w : World} (h1 : MapAt (Old w) w r1 l1 val1) (h2 : MapAt (Old w) w r2 l2 val2) :
    Calls Try.prog 87 #[.iface 281 (.map (some r1)), .iface 281 (.map (some r2))] w (EqPost (T.eqvM l1 l2) w) := by
  have hb0 : ∀ o : Obj, Below w.heap.size w (w.alloc o) := fun o => (Below.refl _ _).alloc (Nat.le_refl _) _
  have Hc := fun o => hide (mapEqualsUsing_calls (w := w.alloc o) ((h1.below (fun _ h => h) (hb0 o)).mono fun b hb => Nat.lt_of_lt_of_le hb (by simp)) ((h2.below (fun _ h => h) (hb0 o)).mono fun b hb => Nat.lt_of_lt_of_le hb (by simp)) ⟨w.heap.size, 0, none⟩)
  generalize T.eqvM l1 l2 = c at Hc
  clear h1 h2
  go_enter Try.func87, Try.ntmps87
  go_wp2_with fail
  refine (Hc _).out.mono ?_
  rintro e w1 ⟨rfl, hb⟩
  have Hb := hide ((hb0 _).trans (hb.mono (by simp)))
  clear hb Hc hb0
  go_wp2
  go_ret
  exact ⟨rfl, Hb.out⟩

theorem listCompareV_calls {l1 l2 : List T} {A1 A2 : Option Addr} {c1 c2 : Nat} {w : World} (h1 : ListAt (Old w) w A1 l1) (h2 : ListAt (Old w) w A2 l2) :
    Calls Try.prog 88 #[.iface 280 (.slice A1 l1.length c1), .iface 280 (.slice A2 l2.length c2)] w (CmpPost (T.cmpL l1 l2) w) := by
  have hb0 : ∀ o : Obj, Below w.heap.size w (w.alloc o) := fun o => (Below.refl _ _).alloc (Nat.le_refl _) _
  have Hc := fun o => hide (let ⟨s1, x1, y1, z1⟩ := h1.up (fun _ h => h) (hb0 o); let ⟨s2, x2, y2, z2⟩ := h2.up (fun _ h => h) (hb0 o); listCompare_calls l1 l2 (fun a _ b _ => cmp_all a b) A1 A2 c1 c2 x1 x2 ⟨w.heap.size, 0, none⟩ (w.alloc o) s1 s2 y1 y2 z1 z2)
  generalize T.cmpL l1 l2 = c at Hc
  clear h1 h2
  go_enter Try.func88, Try.ntmps88
  go_wp2_with fail
  refine (Hc _).out.mono ?_
  rintro e w1 ⟨rfl, hb⟩
  have Hb := hide ((hb0 _).trans (hb.mono (by simp)))
  clear hb Hc hb0
  go_wp2
  go_ret
  exact ⟨rfl, Hb.out⟩

theorem listEqualsV_calls {l1 l2 : List T} {A1 A2 : Option Addr} {c1 c2 : Nat} {w : World} (h1 : ListAt (Old w) w A1 l1) (h2 : ListAt (Old w) w A2 l2) :
    Calls Try.prog 90 #[.iface 280 (.slice A1 l1.length c1), .iface 280 (.slice A2 l2.length c2)] w (EqPost (T.eqvL l1 l2) w) := by
  have hb0 : ∀ o : Obj, Below w.heap.size w (w.alloc o) := fun o => (Below.refl _ _).alloc (Nat.le_refl _) _
  have Hc := fun o => hide (let ⟨s1, x1, y1, z1⟩ := h1.up (fun _ h => h) (hb0 o); let ⟨s2, x2, y2, z2⟩ := h2.up (fun _ h => h) (hb0 o); listEquals_callsV l1 l2 (fun a _ b _ => eqv_all a b) A1 A2 c1 c2 x1 x2 ⟨w.heap.size, 0, none⟩ (w.alloc o) s1 y1 y2 z1 z2)
  generalize T.eqvL l1 l2 = c at Hc
  clear h1 h2
  go_enter Try.func90, Try.ntmps90
  go_wp2_with fail
  refine (Hc _).out.mono ?_
  rintro e w1 ⟨rfl, hb⟩
  have Hb := hide ((hb0 _).trans (hb.mono (by simp)))
  clear hb Hc hb0
  go_wp2
  go_ret
  exact ⟨rfl, Hb.out⟩

end Go.Proofs.Ytekaainjpddklaa
