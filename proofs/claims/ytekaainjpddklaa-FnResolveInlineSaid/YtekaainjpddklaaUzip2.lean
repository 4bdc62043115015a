/-
  The unordered zip of two maps; value.MapEqualsUsing, value.MapEquals.
-/
import Derived.Test.YtekaainjpddklaaUzip
set_option linter.unusedVariables false
set_option linter.unusedSimpArgs false
namespace Go.Proofs.Ytekaainjpddklaa
open Go.RowKit
attribute [local go_sem] run_store_float run_load_k meth_Free meth_Length meth_IterateUsing meth_GetUsing meth_Has meth_Empty meth_ZipUsing

section
variable {l1 l2 : List (ByteArray × T)} {r1 r2 : Nat} {val1 val2 : ByteArray → Value} {F : Nat → Prop} {w : World} {f : FuncId} {cap : Array Value} {S : Nat → Prop} {J : List ByteArray → World → Prop} {Jf : World → Prop}

/-- what is known in a range of the unordered zip -/
structure UJ (w : World) (S : Nat → Prop) (J : List ByteArray → World → Prop) (pa : Addr) (r1 r2 : Nat) (f : FuncId) (cap : Array Value) (ks vis all : List ByteArray) (W : World) : Prop where
  j : J all W
  b : ButS S w W
  c : UCells w.heap.size pa r1 r2 f cap W
  sub : ∀ k ∈ vis, k ∈ ks
  nd : vis.Nodup

theorem ButS.keepsF (hF : ∀ b, F b → b < w.heap.size ∧ ¬ S b) {W : World} (h : ButS S w W) : Keeps F w W := fun b hb => h.block b (hF b hb).1 (hF b hb).2
theorem mem_bothK1 {k : ByteArray} (h : k ∈ l1.map Prod.fst) : k ∈ bothK l1 l2 := (mem_mergeK _ _ _).2 (.inl h)
theorem mem_bothK2 {k : ByteArray} (h : k ∈ l2.map Prod.fst) : k ∈ bothK l1 l2 := (mem_mergeK _ _ _).2 (.inr h)

theorem UJ.below {pa : Addr} {ks vis all : List ByteArray} {W W' : World} (hs : UStep f cap l1 l2 w S J Jf) (h : UJ w S J pa r1 r2 f cap ks vis all W) (hb : Below W.heap.size W W') : UJ w S J pa r1 r2 f cap ks vis all W' :=
  ⟨hs.keep _ _ _ h.j ⟨hb.os, hb.tape, hb.output, hb.size, fun b hb' => hb.block b (Nat.lt_of_lt_of_le hb' h.b.size)⟩, h.b.trans (ButS.below (S := S) hb) (fun _ _ h => h), h.c.keep fun b hb' _ _ => hb.block b hb', h.sub, h.nd⟩
theorem UJ.butTwo {pa : Addr} {ks vis all : List ByteArray} {g : Nat} {W W' : World} (hs : UStep f cap l1 l2 w S J Jf) (h : UJ w S J pa r1 r2 f cap ks vis all W) (hg : w.heap.size + 4 ≤ g) (hk : ButTwo g W W') : UJ w S J pa r1 r2 f cap ks vis all W' := by
  have hsz := h.b.size
  refine ⟨hs.keep _ _ _ h.j ⟨hk.os, hk.tape, hk.output, hk.size, fun b hb' => hk.block b (by omega) (by omega) (by omega)⟩, ⟨hk.os.trans h.b.os, hk.tape.trans h.b.tape, hk.output.trans h.b.output, Nat.le_trans h.b.size hk.size, fun b hb' hn => (hk.block b (by omega) (by omega) (by omega)).trans (h.b.block b hb' hn)⟩, h.c.keep fun b hb' h1 h2 => hk.block b hb' (by omega) (by omega), h.sub, h.nd⟩

theorem nodup_snoc {vis : List ByteArray} {k : ByteArray} (h : vis.Nodup) (hk : k ∉ vis) : (vis ++ [k]).Nodup := by
  refine List.nodup_append.2 ⟨h, by simp, ?_⟩
  intro a ha b hb
  rw [List.mem_singleton.1 hb]
  rintro rfl
  exact hk ha
theorem sub_snoc {vis ks : List ByteArray} {k : ByteArray} (h : ∀ x ∈ vis, x ∈ ks) (hk : k ∈ ks) : ∀ x ∈ vis ++ [k], x ∈ ks := by
  intro x hx
  rcases List.mem_append.1 hx with hx | hx
  · exact h x hx
  · rw [List.mem_singleton.1 hx]; exact hk

theorem fn_bool {vis : List ByteArray} {k : ByteArray} {W : World} : ∀ e w', (((e = Ending.returned (.bool true) ∧ J (vis ++ [k]) w') ∨ (e = .returned (.bool false) ∧ Jf w')) ∧ ButS S W w') → ∃ b : Bool, e = .returned (.bool b) := by
  rintro e w' ⟨⟨rfl, _⟩ | ⟨rfl, _⟩, _⟩
  · exact ⟨_, rfl⟩
  · exact ⟨_, rfl⟩

/-- the first range -/
theorem uIter1 (hF : ∀ b, F b → b < w.heap.size ∧ ¬ S b) (hS : ∀ b, S b → b < w.heap.size) (hcf : ∀ (args : Array Value) (W : World), (callFunc f args).run Try.prog W = .ok (.enter f args) W)
    (h1 : MapAt F w r1 l1 val1) (h2 : MapAt F w r2 l2 val2) (pa : Addr) (hs : UStep f cap l1 l2 w S J Jf) {wx : World} (hx : UJ w S J pa r1 r2 f cap (l1.map Prod.fst) [] [] wx) (hsz : w.heap.size + 4 ≤ wx.heap.size) :
    Calls Try.prog 198 #[.map (some r1), .iface 178 (.pointer (some pa)), .func (.func 207) #[] #[.pointer (some ⟨w.heap.size + 2, 0, none⟩), .pointer (some ⟨w.heap.size, 0, none⟩), .pointer (some ⟨w.heap.size + 3, 0, none⟩)]] wx
      fun e w' => (e = .returned (.bool true) ∧ ∃ vis : List ByteArray, vis.Perm (l1.map Prod.fst) ∧ UJ w S J pa r1 r2 f cap (l1.map Prod.fst) vis vis w') ∨ (e = .returned (.bool false) ∧ Jf w' ∧ ButS S w w') := by
  have h1x := h1.keeps (ButS.keepsF hF hx.b)
  by_cases h0 : l1.map Prod.fst = []
  · rw [h0] at hx ⊢
    have := h1x.is_
    rw [h0] at this
    refine (iterate_none this pa _).mono ?_
    rintro e w' ⟨rfl, rfl⟩
    exact .inl ⟨rfl, [], List.Perm.refl _, hx⟩
  · refine (iterate_some h1x.is_ h0 pa _ _ (fun args W => by kernel_rfl) (fun vis W => UJ w S J pa r1 r2 f cap (l1.map Prod.fst) vis vis W) (fun W => Jf W ∧ ButS S w W) hx ?_ ?_ ?_ ?_).mono ?_
    · intro k hk
      obtain ⟨t, ht⟩ := getT_isSome hk
      exact ⟨_, _, t, h1.items _ _ (getT_mem ht)⟩
    · intro vis W W' hj _ hk
      exact hj.butTwo hs hsz hk
    · intro vis W' hj hb
      exact hj.below hs hb
    · intro vis k W hk hnk hj hszW hB hmW
      obtain ⟨t, ht⟩ := getT_isSome hk
      have hwW := hj.b.size
      have hlv : ItemV W (getT l1 k) (.iface 182 (.pointer (some ⟨wx.heap.size, 0, none⟩))) := by
        rw [ht]
        exact ⟨wx.heap.size, val1 k, rfl, hB.lt, hB, ((h1.items _ _ (getT_mem ht)).keeps (ButS.keepsF hF hj.b)).mono fun b hb => Nat.lt_of_lt_of_le (hF b hb).1 hwW⟩
      refine (uClosure1 hcf w.heap.size pa r1 r2 k _ W hj.c (h2.keeps (ButS.keepsF hF hj.b)) (fun b hb => Nat.lt_of_lt_of_le (hF b hb).1 hwW) (Q := fun e W' => ((e = .returned (.bool true) ∧ J (vis ++ [k]) W') ∨ (e = .returned (.bool false) ∧ Jf W')) ∧ ButS S W W') (fun e w' h => fn_bool e w' h) ?_).mono ?_
      · intro W1 rv hb1 hrv
        have hj1 := hj.below hs hb1
        refine (hs.step vis k W1 _ rv (mem_bothK1 hk) hnk hj1.j hj1.b.size (hlv.below hb1) hrv).mono ?_
        rintro e W' ⟨he, hb⟩
        exact ⟨he, (ButS.below (S := S) hb1).trans hb fun _ _ h => h⟩
      · rintro e W' ⟨he, hb⟩
        have hblk : ∀ b, b < W.heap.size → ¬ S b → W'.heap[b]? = W.heap[b]? := hb.block
        have hnS : ∀ b, w.heap.size ≤ b → ¬ S b := fun b h h' => by have := hS b h'; omega
        refine ⟨?_, hblk _ (by have := hmW.lt; omega) (hF _ h1.blk).2, hblk _ (by omega) (hnS _ (by omega)), hblk _ (by omega) (hnS _ (by omega))⟩
        rcases he with ⟨rfl, hj'⟩ | ⟨rfl, hj'⟩
        · exact .inl ⟨rfl, hj', hj.b.trans hb (fun _ _ h => h), hj.c.keep (fun b hb' h1 h2 => hblk b hb' (hnS b h1)), sub_snoc hj.sub hk, nodup_snoc hj.nd hnk⟩
        · exact .inr ⟨rfl, hj', hj.b.trans hb fun _ _ h => h⟩
    · rintro e w' (⟨rfl, vis, hp, hj⟩ | ⟨rfl, hj⟩)
      · exact .inl ⟨rfl, vis, hp, hj⟩
      · exact .inr ⟨rfl, hj⟩

/-- the second range -/
theorem uIter2 (hF : ∀ b, F b → b < w.heap.size ∧ ¬ S b) (hS : ∀ b, S b → b < w.heap.size) (hcf : ∀ (args : Array Value) (W : World), (callFunc f args).run Try.prog W = .ok (.enter f args) W)
    (h1 : MapAt F w r1 l1 val1) (h2 : MapAt F w r2 l2 val2) (pa : Addr) (hs : UStep f cap l1 l2 w S J Jf) {wx : World} {v1 : List ByteArray} (hp1 : v1.Perm (l1.map Prod.fst)) (hx : UJ w S J pa r1 r2 f cap (l2.map Prod.fst) [] v1 wx) (hsz : w.heap.size + 4 ≤ wx.heap.size) :
    Calls Try.prog 198 #[.map (some r2), .iface 178 (.pointer (some pa)), .func (.func 208) #[] #[.pointer (some ⟨w.heap.size + 1, 0, none⟩), .pointer (some ⟨w.heap.size + 3, 0, none⟩)]] wx
      fun e w' => (e = .returned (.bool true) ∧ ∃ vis : List ByteArray, vis.Perm (l2.map Prod.fst) ∧ UJ w S J pa r1 r2 f cap (l2.map Prod.fst) vis (v1 ++ vis.filter fun k => !hasK k (l1.map Prod.fst)) w') ∨ (e = .returned (.bool false) ∧ Jf w' ∧ ButS S w w') := by
  have h2x := h2.keeps (ButS.keepsF hF hx.b)
  by_cases h0 : l2.map Prod.fst = []
  · have := h2x.is_
    rw [h0] at this
    refine (iterate_none this pa _).mono ?_
    rintro e w' ⟨rfl, rfl⟩
    exact .inl ⟨rfl, [], by rw [h0], by simpa using hx⟩
  · refine (iterate_some h2x.is_ h0 pa _ _ (fun args W => by kernel_rfl) (fun vis W => UJ w S J pa r1 r2 f cap (l2.map Prod.fst) vis (v1 ++ vis.filter fun k => !hasK k (l1.map Prod.fst)) W) (fun W => Jf W ∧ ButS S w W) (by simpa using hx) ?_ ?_ ?_ ?_).mono ?_
    · intro k hk
      obtain ⟨t, ht⟩ := getT_isSome hk
      exact ⟨_, _, t, h2.items _ _ (getT_mem ht)⟩
    · intro vis W W' hj _ hk
      exact hj.butTwo hs hsz hk
    · intro vis W' hj hb
      exact hj.below hs hb
    · intro vis k W hk hnk hj hszW hB hmW
      obtain ⟨t, ht⟩ := getT_isSome hk
      have hwW := hj.b.size
      have hrv : ItemV W (getT l2 k) (.iface 182 (.pointer (some ⟨wx.heap.size, 0, none⟩))) := by
        rw [ht]
        exact ⟨wx.heap.size, val2 k, rfl, hB.lt, hB, ((h2.items _ _ (getT_mem ht)).keeps (ButS.keepsF hF hj.b)).mono fun b hb => Nat.lt_of_lt_of_le (hF b hb).1 hwW⟩
      have hfil : k ∈ l1.map Prod.fst → (v1 ++ (vis ++ [k]).filter fun k => !hasK k (l1.map Prod.fst)) = v1 ++ vis.filter fun k => !hasK k (l1.map Prod.fst) := fun hin => by
        rw [List.filter_append, List.filter_cons, (hasK_iff k _).2 hin]
        simp
      have hfil2 : k ∉ l1.map Prod.fst → (v1 ++ (vis ++ [k]).filter fun k => !hasK k (l1.map Prod.fst)) = (v1 ++ vis.filter fun k => !hasK k (l1.map Prod.fst)) ++ [k] := fun hin => by
        have : hasK k (l1.map Prod.fst) = false := by rw [Bool.eq_false_iff]; exact fun h' => hin ((hasK_iff k _).1 h')
        rw [List.filter_append, List.filter_cons, this]
        simp
      have hnv : k ∉ l1.map Prod.fst → k ∉ (v1 ++ vis.filter fun k => !hasK k (l1.map Prod.fst)) := fun hin h => by
        rcases List.mem_append.1 h with h | h
        · exact hin (hp1.subset h)
        · exact hnk (List.mem_filter.1 h).1
      refine (uClosure2 hcf w.heap.size pa r1 r2 k _ W hj.c (h1.keeps (ButS.keepsF hF hj.b)).is_ (Q := fun e W' => ((e = .returned (.bool true) ∧ J (v1 ++ (vis ++ [k]).filter fun k => !hasK k (l1.map Prod.fst)) W') ∨ (e = .returned (.bool false) ∧ Jf W')) ∧ ButS S W W') ?_ ?_ ?_).mono ?_
      · rintro e w' ⟨⟨rfl, _⟩ | ⟨rfl, _⟩, _⟩
        · exact ⟨_, rfl⟩
        · exact ⟨_, rfl⟩
      · intro hin
        rw [hfil hin]
        exact ⟨.inl ⟨rfl, hj.j⟩, rfl, rfl, rfl, Nat.le_refl _, fun _ _ _ => rfl⟩
      · intro hin
        rw [hfil2 hin]
        exact hs.step _ k W _ _ (mem_bothK2 hk) (hnv hin) hj.j hwW (by rw [getT_none.2 hin]; rfl) hrv
      · rintro e W' ⟨he, hb⟩
        have hblk : ∀ b, b < W.heap.size → ¬ S b → W'.heap[b]? = W.heap[b]? := hb.block
        have hnS : ∀ b, w.heap.size ≤ b → ¬ S b := fun b h h' => by have := hS b h'; omega
        refine ⟨?_, hblk _ (by have := hmW.lt; omega) (hF _ h2.blk).2, hblk _ (by omega) (hnS _ (by omega)), hblk _ (by omega) (hnS _ (by omega))⟩
        rcases he with ⟨rfl, hj'⟩ | ⟨rfl, hj'⟩
        · exact .inl ⟨rfl, hj', hj.b.trans hb (fun _ _ h => h), hj.c.keep (fun b hb' h1 h2 => hblk b hb' (hnS b h1)), sub_snoc hj.sub hk, nodup_snoc hj.nd hnk⟩
        · exact .inr ⟨rfl, hj', hj.b.trans hb fun _ _ h => h⟩
    · rintro e w' (⟨rfl, vis, hp, hj⟩ | ⟨rfl, hj⟩)
      · exact .inl ⟨rfl, vis, hp, hj⟩
      · exact .inr ⟨rfl, hj⟩

theorem uWorld (w : World) (pa : Addr) (r1 r2 : Nat) (f : FuncId) (cap : Array Value) : UCells w.heap.size pa r1 r2 f cap ((((w.alloc (.cells #[.iface 178 (.pointer (some pa))] 214)).alloc (.cells #[.iface 281 (.map (some r1))] 121)).alloc (.cells #[.iface 281 (.map (some r2))] 121)).alloc (.cells #[.func (.func f) #[] cap] 125)) ∧
    Below w.heap.size w ((((w.alloc (.cells #[.iface 178 (.pointer (some pa))] 214)).alloc (.cells #[.iface 281 (.map (some r1))] 121)).alloc (.cells #[.iface 281 (.map (some r2))] 121)).alloc (.cells #[.func (.func f) #[] cap] 125)) := by
  refine ⟨⟨(((Bk.new w _ _).alloc _).alloc _).alloc _, ?_, ?_, ?_⟩, ((((Below.refl _ _).alloc (Nat.le_refl _) _).alloc (by simp) _).alloc (by simp; omega) _).alloc (by simp; omega) _⟩
  · have := ((Bk.new (w.alloc (.cells #[.iface 178 (.pointer (some pa))] 214)) 121 #[.iface 281 (.map (some r1))]).alloc (.cells #[.iface 281 (.map (some r2))] 121)).alloc (.cells #[.func (.func f) #[] cap] 125)
    simpa using this
  · have := (Bk.new ((w.alloc (.cells #[.iface 178 (.pointer (some pa))] 214)).alloc (.cells #[.iface 281 (.map (some r1))] 121)) 121 #[.iface 281 (.map (some r2))]).alloc (.cells #[.func (.func f) #[] cap] 125)
    simpa using this
  · have := Bk.new (((w.alloc (.cells #[.iface 178 (.pointer (some pa))] 214)).alloc (.cells #[.iface 281 (.map (some r1))] 121)).alloc (.cells #[.iface 281 (.map (some r2))] 121)) 125 #[.func (.func f) #[] cap]
    simpa using this

set_option maxRecDepth 100000 in
set_option maxHeartbeats 1000000 in
/-- the unordered zip of two maps -/
theorem uzip_calls (hF : ∀ b, F b → b < w.heap.size ∧ ¬ S b) (hS : ∀ b, S b → b < w.heap.size) (hcf : ∀ (args : Array Value) (W : World), (callFunc f args).run Try.prog W = .ok (.enter f args) W)
    (h1 : MapAt F w r1 l1 val1) (h2 : MapAt F w r2 l2 val2) (pa : Addr) (hs : UStep f cap l1 l2 w S J Jf) :
    Calls Try.prog 205 #[.iface 178 (.pointer (some pa)), .iface 281 (.map (some r1)), .iface 281 (.map (some r2)), .func (.func f) #[] cap] w (UPost l1 l2 w S J Jf) := by
  have hW := uWorld w pa r1 r2 f cap
  have Hm : ∀ W, ButS S w W → Hid (MapAt F W r1 l1 val1 ∧ MapAt F W r2 l2 val2) := fun W hb => hide ⟨h1.keeps (ButS.keepsF hF hb), h2.keeps (ButS.keepsF hF hb)⟩
  have Hs := hide hs
  have Hi1 : ∀ wx, UJ w S J pa r1 r2 f cap (l1.map Prod.fst) [] [] wx → w.heap.size + 4 ≤ wx.heap.size → Hid (Calls Try.prog 198 #[.map (some r1), .iface 178 (.pointer (some pa)), .func (.func 207) #[] #[.pointer (some ⟨w.heap.size + 2, 0, none⟩), .pointer (some ⟨w.heap.size, 0, none⟩), .pointer (some ⟨w.heap.size + 3, 0, none⟩)]] wx _) := fun wx hx hz => hide (uIter1 hF hS hcf h1 h2 pa hs hx hz)
  have Hi2 : ∀ (wx : World) (v1 : List ByteArray), v1.Perm (l1.map Prod.fst) → UJ w S J pa r1 r2 f cap (l2.map Prod.fst) [] v1 wx → w.heap.size + 4 ≤ wx.heap.size → Hid (Calls Try.prog 198 #[.map (some r2), .iface 178 (.pointer (some pa)), .func (.func 208) #[] #[.pointer (some ⟨w.heap.size + 1, 0, none⟩), .pointer (some ⟨w.heap.size + 3, 0, none⟩)]] wx _) := fun wx v1 hp hx hz => hide (uIter2 hF hS hcf h1 h2 pa hs hp hx hz)
  have Hk := hide (And.intro (sortK_of h1.sorted) (sortK_of h2.sorted))
  have hl1 : (l1.map Prod.fst).length = l1.length := List.length_map _
  have hl2 : (l2.map Prod.fst).length = l2.length := List.length_map _
  have Hl := hide (And.intro hl1 hl2)
  clear hs h1 h2 hl1 hl2
  go_enter Try.func205, Try.ntmps205
  go_wp2_with fail
  generalize World.alloc _ _ = W at hW ⊢
  have hsz := hW.1.f.lt
  have hb0 : ButS S w W := ButS.below (S := S) hW.2
  have HW := hide (And.intro hW hb0)
  have q0 := hW.1.a.cell 0
  have q1 := hW.1.l.cell 0
  have q2 := hW.1.r.cell 0
  simp at q0 q1 q2
  clear hW hb0
  have Hstart : Hid (UJ w S J pa r1 r2 f cap (l1.map Prod.fst) [] [] W) := hide ⟨Hs.out.start _ HW.out.1.2, HW.out.2, HW.out.1.1, by simp, by simp⟩
  by_cases e1 : l1.length = 0
  · have He1 := hide e1
    go_wp2_with fail
    have hE1 := mapEmpty_calls (Hm W HW.out.2).out.1.is_
    rw [show decide ((l1.map Prod.fst).length = 0) = true by simpa using e1] at hE1
    clear e1
    refine hE1.mono ?_
    clear hE1
    rintro e w1 ⟨rfl, rfl⟩
    by_cases e2 : l2.length = 0
    · have He2 := hide e2
      go_wp2_with fail
      have hE2 := mapEmpty_calls (Hm W HW.out.2).out.2.is_
      rw [show decide ((l2.map Prod.fst).length = 0) = true by simpa using e2] at hE2
      clear e2
      refine hE2.mono ?_
      clear hE2
      rintro e w1 ⟨rfl, rfl⟩
      go_wp2
      go_ret
      have n1 : l1 = [] := List.eq_nil_of_length_eq_zero He1.out
      have n2 : l2 = [] := List.eq_nil_of_length_eq_zero He2.out
      exact ⟨.inl ⟨rfl, [], by rw [n1, n2]; simp [bothK, mergeK_nil], Hstart.out.j⟩, HW.out.2⟩
    · have He2 := hide e2
      go_wp2_with fail
      have hE2 := mapEmpty_calls (Hm W HW.out.2).out.2.is_
      rw [show decide ((l2.map Prod.fst).length = 0) = false by simpa using e2] at hE2
      clear e2
      refine hE2.mono ?_
      clear hE2
      rintro e w1 ⟨rfl, rfl⟩
      go_wp2_with fail
      refine (Hi1 W Hstart.out (by omega)).out.mono ?_
      rintro e w2 (⟨rfl, v1, hp1, hj1⟩ | ⟨rfl, hjf, hbf⟩)
      · have hc := hj1.c
        clear q0 q1 q2
        have q0 := hc.a.cell 0
        have q1 := hc.l.cell 0
        have q2 := hc.r.cell 0
        simp at q0 q1 q2
        have Hp1 := hide hp1
        have Hj1 := hide hj1
        clear hp1 hj1 hc
        go_wp2_with fail
        refine (Hi2 w2 v1 Hp1.out ⟨Hj1.out.j, Hj1.out.b, Hj1.out.c, by simp, by simp⟩ (by have := Hj1.out.c.f.lt; omega)).out.mono ?_
        rintro e w3 (⟨rfl, v2, hp2, hj2⟩ | ⟨rfl, hjf, hbf⟩)
        · have Hfin := hide (show UPost l1 l2 w S J Jf (.returned (.bool true)) w3 from ⟨.inl ⟨rfl, _, both_perm Hk.out.1 Hk.out.2 Hp1.out hp2, hj2.j⟩, hj2.b⟩)
          clear hp2 hj2
          go_wp2
          go_ret
          exact Hfin.out
        · have Hfin := hide (show UPost l1 l2 w S J Jf (.returned (.bool false)) w3 from ⟨.inr ⟨rfl, hjf⟩, hbf⟩)
          clear hjf hbf
          go_wp2
          go_ret
          exact Hfin.out
      · have Hfin := hide (show UPost l1 l2 w S J Jf (.returned (.bool false)) w2 from ⟨.inr ⟨rfl, hjf⟩, hbf⟩)
        clear hjf hbf
        go_wp2
        go_ret
        exact Hfin.out
  · have He1 := hide e1
    go_wp2_with fail
    have hE1 := mapEmpty_calls (Hm W HW.out.2).out.1.is_
    rw [show decide ((l1.map Prod.fst).length = 0) = false by simpa using e1] at hE1
    clear e1
    refine hE1.mono ?_
    clear hE1
    rintro e w1 ⟨rfl, rfl⟩
    go_wp2_with fail
    refine (Hi1 W Hstart.out (by omega)).out.mono ?_
    rintro e w2 (⟨rfl, v1, hp1, hj1⟩ | ⟨rfl, hjf, hbf⟩)
    · have hc := hj1.c
      clear q0 q1 q2
      have q0 := hc.a.cell 0
      have q1 := hc.l.cell 0
      have q2 := hc.r.cell 0
      simp at q0 q1 q2
      have Hp1 := hide hp1
      have Hj1 := hide hj1
      clear hp1 hj1 hc
      go_wp2_with fail
      refine (Hi2 w2 v1 Hp1.out ⟨Hj1.out.j, Hj1.out.b, Hj1.out.c, by simp, by simp⟩ (by have := Hj1.out.c.f.lt; omega)).out.mono ?_
      rintro e w3 (⟨rfl, v2, hp2, hj2⟩ | ⟨rfl, hjf, hbf⟩)
      · have Hfin := hide (show UPost l1 l2 w S J Jf (.returned (.bool true)) w3 from ⟨.inl ⟨rfl, _, both_perm Hk.out.1 Hk.out.2 Hp1.out hp2, hj2.j⟩, hj2.b⟩)
        clear hp2 hj2
        go_wp2
        go_ret
        exact Hfin.out
      · have Hfin := hide (show UPost l1 l2 w S J Jf (.returned (.bool false)) w3 from ⟨.inr ⟨rfl, hjf⟩, hbf⟩)
        clear hjf hbf
        go_wp2
        go_ret
        exact Hfin.out
    · have Hfin := hide (show UPost l1 l2 w S J Jf (.returned (.bool false)) w2 from ⟨.inr ⟨rfl, hjf⟩, hbf⟩)
      clear hjf hbf
      go_wp2
      go_ret
      exact Hfin.out
end

/-- the closure of MapEqualsUsing -/
theorem meqNone (n : Nat) (k lv rv : Value) (W : World) (hn : lv = .nilIface ∨ ∃ p, lv = .iface 182 (.pointer (some p)) ∧ rv = .nilIface) :
    Calls Try.prog 141 #[k, lv, rv, .pointer (some ⟨n, 0, none⟩)] W fun e w' => e = .returned (.bool false) ∧ W = w' := by
  rcases hn with rfl | ⟨p, rfl, rfl⟩
  all_goals
    go_enter Try.func141, Try.ntmps141
    go_wp2
    go_ret
    exact ⟨rfl, rfl⟩
theorem meqBoth (n : Nat) (pa : Addr) (k : Value) (t1 t2 : T) (lv rv : Value) (W : World) (h1 : ValAt (Old W) W t1 lv) (h2 : ValAt (Old W) W t2 rv) (hc : Bk W n 214 #[.iface 178 (.pointer (some pa))]) :
    Calls Try.prog 141 #[k, lv, rv, .pointer (some ⟨n, 0, none⟩)] W (EqPost (T.eqv t1 t2) W) := by
  have hq := eqv_all t1 t2 W pa lv rv h1 h2
  generalize T.eqv t1 t2 = d at hq
  have Hq := hide hq
  obtain ⟨p, u, rfl, _, _, _⟩ := h1
  obtain ⟨q, v, rfl, _, _, _⟩ := h2
  have q0 := hc.cell 0
  simp at q0
  clear hq hc
  go_enter Try.func141, Try.ntmps141
  go_wp2_with fail
  refine Hq.out.mono ?_
  rintro e w1 ⟨rfl, hb⟩
  have Hb := hide hb
  clear hb
  go_wp2
  go_ret
  exact ⟨rfl, Hb.out⟩

theorem meqZip {l1 l2 : List (ByteArray × T)} (s1 : Sorted l1) (s2 : Sorted l2) (pa : Addr) (n : Nat) (w : World) (hn : n < w.heap.size) (hc : Bk w n 214 #[.iface 178 (.pointer (some pa))]) :
    UStep 141 #[.pointer (some ⟨n, 0, none⟩)] l1 l2 w (fun _ => False) (fun vis W => (∀ k ∈ vis, eqK l1 l2 k = true) ∧ Bk W n 214 #[.iface 178 (.pointer (some pa))]) (fun _ => ∃ k ∈ bothK l1 l2, eqK l1 l2 k = false) where
  start W hb := ⟨by simp, hc.below hb hn⟩
  keep vis W W' hj hs := ⟨hj.1, (hs.block n hn).trans hj.2⟩
  step vis k W lv rv hk hnk hj hsz h1 h2 := by
    have hfin : ∀ (e : Ending) (W' : World), e = .returned (.bool (eqK l1 l2 k)) → Below W.heap.size W W' → ((e = .returned (.bool true) ∧ (∀ x ∈ vis ++ [k], eqK l1 l2 x = true) ∧ Bk W' n 214 #[.iface 178 (.pointer (some pa))]) ∨ (e = .returned (.bool false) ∧ ∃ k ∈ bothK l1 l2, eqK l1 l2 k = false)) ∧ ButS (fun _ => False) W W' := by
      rintro e W' rfl hb
      refine ⟨?_, ButS.below hb⟩
      cases he : eqK l1 l2 k
      · exact .inr ⟨rfl, k, hk, he⟩
      · refine .inl ⟨rfl, fun x hx => ?_, hj.2.below hb hj.2.lt⟩
        rcases List.mem_append.1 hx with hx | hx
        · exact hj.1 x hx
        · rw [List.mem_singleton.1 hx]; exact he
    cases hg1 : getT l1 k with
    | none =>
      rw [hg1] at h1
      have h1 : lv = .nilIface := h1
      refine (meqNone n (.string k) lv rv W (.inl h1)).mono ?_
      rintro e W' ⟨rfl, rfl⟩
      exact hfin _ _ (by unfold eqK; rw [hg1]) (Below.refl _ _)
    | some a =>
      cases hg2 : getT l2 k with
      | none =>
        rw [hg1] at h1
        rw [hg2] at h2
        have h2 : rv = .nilIface := h2
        obtain ⟨p, u, hlv, _⟩ := h1
        refine (meqNone n (.string k) lv rv W (.inr ⟨_, hlv, h2⟩)).mono ?_
        rintro e W' ⟨rfl, rfl⟩
        exact hfin _ _ (by unfold eqK; rw [hg1, hg2]) (Below.refl _ _)
      | some b =>
        rw [hg1] at h1
        rw [hg2] at h2
        refine (meqBoth n pa (.string k) a b lv rv W h1 h2 hj.2).mono ?_
        rintro e W' ⟨rfl, hb⟩
        exact hfin _ _ (by unfold eqK; rw [hg1, hg2]) hb

end Go.Proofs.Ytekaainjpddklaa
