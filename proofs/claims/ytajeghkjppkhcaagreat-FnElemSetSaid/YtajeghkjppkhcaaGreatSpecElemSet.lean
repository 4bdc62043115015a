/-
  spec.ElemSet. Printed by genspecelemset.py.
-/
import Derived.Test.YtajeghkjppkhcaaGreatSpecPath
import Derived.Test.YtajeghkjppkhcaaGreatESetP
import Derived.Test.YtajeghkjppkhcaaGreatElemSetX
import Derived.Test.YtajeghkjppkhcaaGreatCopyIns
set_option linter.unusedVariables false
set_option linter.unusedSimpArgs false
namespace Go.Proofs.YtajeghkjppkhcaaGreat
open Go.RowKit
attribute [local go_sem] run_store_float

theorem cells_laid {α : Type} {n : Nat} {P : α → List Value → Prop} {l : List α} {xs cs : List Value} {e : α} {i : Nat} (h : Cells n P l xs) (he : P e cs) (hl : cs.length = n) (hi : i ≤ l.length) : Cells n P (l.take i ++ e :: l.drop i) (laid n i cs xs) := by
  have h1 := h.take i hi
  have h2 := h.drop_ i
  have := (h1.append (Cells.one he hl)).append h2
  simpa [laid] using this
theorem setE_mem {l : List E} {e : E} (h : e ∈ setE l) : e ∈ l := by
  have : ∀ (l a : List E) (e : E), e ∈ l.foldl (fun a e => insC E.cmp e a) a → e ∈ a ∨ e ∈ l := by
    intro l
    induction l with
    | nil => intro a e h; exact .inl h
    | cons x l ih =>
      intro a e h
      rcases ih _ e h with h | h
      · rcases mem_insC h with rfl | h
        · exact .inr (by simp)
        · exact .inl h
      · exact .inr (by simp [h])
  rcases this l [] e h with h | h
  · cases h
  · exact h
theorem pel_ews {l : List REl} {e : E} (h : e ∈ pel l) : EWS e := by
  obtain ⟨r, -, rfl⟩ := List.mem_map.1 h
  exact ⟨r, rfl⟩
theorem elems_ones {F : Nat → Prop} {w : World} {l : List REl} {xs : List Value} (h : Cells 11 (ElemAt F w) l xs) : ∀ u ∈ xs, u.oneCell' = true :=
  h.ones (by decide) fun a cs h => by
    obtain ⟨a0, a1, a2, a3, a4, a5, a6, a7, a8, a9, aa, ab, ac, ad, ae, af, ag, ah, ai, rfl⟩ := h.form
    simp [Value.oneCell']

/-- at the head of a round of spec.ElemSet -/
def SEInv (w : World) (p : List E) (s3 s9 : Value) (W : World) : Prop :=
  ∃ (k : Nat) (us : List Value), s9 = .int .i64 (k : Int) ∧ k ≤ p.length ∧ W.ownsRow w.heap.size 33 11 s3 (setE (p.take k)).length us ∧ Cells 11 (ElemAt (FrX w.heap.size W s3) W) ((setE (p.take k)).map E.toREl) us ∧ Below w.heap.size w W
/-- at the head of a round of the search in it -/
def SEIn (w1 : World) (S : List E) (e : E) (s : Value) (W : World) : Prop :=
  ∃ m : Nat, s = .int .i64 (m : Int) ∧ m ≤ S.length ∧ (∀ (i : Nat) a, m ≤ i → S[i]? = some a → 0 < E.cmp a e) ∧ Below w1.heap.size w1 W

set_option maxRecDepth 100000 in
set_option maxHeartbeats 8000000 in
theorem specElemSet_calls {l : List REl} {A : Option Addr} {c : Nat} {w : World} (h : PathAt (Old w) w l A c) (hok : POk (pel l)) : Calls Tryz.prog 17 #[.slice A l.length c] w (GivesEls ((setE (pel l)).map E.toREl) w) := by
  obtain ⟨h1, h2, h3, xs, h4, h5⟩ := h
  have h1' : l.length * 168 ≤ 140737488351232 := h1
  obtain ⟨i9, hi9, hz9, hs9, hb9⟩ := info_parts elem_info
  have H7 := hide (And.intro h4 h5)
  have Hok := hide hok
  clear h1 h4 h5 hok
  go_enter Tryz.func17, Tryz.ntmps17
  go_wp2_with fail
  go_loopw [3, 9] (fun s3 s9 W => SEInv w (pel l) s3 s9 W) (fun _ s _ => l.length - (intOf s).toNat)
  case atStart => exact ⟨0, [], rfl, Nat.zero_le _, World.ownsRow_nil _ _ _ _, Cells.nil_, Below.refl _ _⟩
  case round =>
    obtain ⟨k, us, rfl, hk, hown, hus, hb⟩ := hrel
    rw [pel_length] at hk
    by_cases hlt : k < l.length
    · have hki0 : (0 : Int) ≤ (k : Int) := Int.natCast_nonneg _
      have hki1 : (k : Int) < (l.length : Int) := by omega
      have hx := H7.out.2.at_ hlt
      have hsn : (pel l).take (k + 1) = (pel l).take k ++ [(l[k]).elem] := by rw [List.take_succ_eq_append_getElem (by rw [pel_length]; exact hlt)]; simp [pel]
      have heo : (l[k]).elem.Ok := Hok.out _ (by simp [pel]; exact ⟨_, List.getElem_mem _, rfl⟩)
      have hpk := setE_ok (l := (pel l).take k) fun x hx => Hok.out x (List.mem_of_mem_take hx)
      have hws : ∀ a ∈ setE ((pel l).take k), EWS a := fun a ha => pel_ews (List.mem_of_mem_take (setE_mem ha))
      have hse : setE ((pel l).take (k + 1)) = insC E.cmp (l[k]).elem (setE ((pel l).take k)) := by rw [hsn, setE_snoc]
      have hlk : (setE ((pel l).take k)).length ≤ k := by have := hpk.2.2; rw [List.length_take, pel_length] at this; omega
      clear hsn
      have hpk := And.intro hpk.1 hpk.2.1
      generalize l[k] = fx at *
      generalize setE ((pel l).take k) = S at *
      obtain ⟨n, hn⟩ : ∃ n, S.length = n := ⟨_, rfl⟩
      rw [hn] at hown hlk
      have Hn := hide hn
      obtain ⟨oA, oc, rfl, hoc1, hoc2⟩ := own_form hown
      generalize hcs : (xs.drop (k * 11)).take 11 = fcs at hx
      obtain ⟨a0, a1, a2, a3, a4, a5, a6, a7, a8, a9, aa, ab, ac, ad, ae, af, ag, ah, ai, rfl⟩ := hx.form
      obtain ⟨rb, ro, rfl, hF, hc⟩ := rown_at H7.out.1 hlt hcs
      have ec := (bcell hb).1
      have m0 := (ec _ _ hF).trans (hc 0 _ rfl)
      have m1 := (ec _ _ hF).trans (hc 1 _ rfl)
      have m2 := (ec _ _ hF).trans (hc 2 _ rfl)
      have m3 := (ec _ _ hF).trans (hc 3 _ rfl)
      have m4 := (ec _ _ hF).trans (hc 4 _ rfl)
      have m5 := (ec _ _ hF).trans (hc 5 _ rfl)
      have m6 := (ec _ _ hF).trans (hc 6 _ rfl)
      have m7 := (ec _ _ hF).trans (hc 7 _ rfl)
      have m8 := (ec _ _ hF).trans (hc 8 _ rfl)
      have m9 := (ec _ _ hF).trans (hc 9 _ rfl)
      have m10 := (ec _ _ hF).trans (hc 10 _ rfl)
      rw [Nat.add_zero] at m0
      have hrb : rb < w.heap.size := hF
      obtain ⟨wo, hwo⟩ : ∃ W, W = wr := ⟨_, rfl⟩
      subst hwo
      have hwe : w.heap.size ≤ wo.heap.size := hb.size
      have Hones := hide (elems_ones hus)
      have Hclean := hide fun (W : World) (hb : Below w.heap.size w W) => cleanElem_calls fx W _ (hx.at_ hb)
      have Hq := hide (And.intro hown (And.intro hus (And.intro (show us.length = n * 11 from hown.1) (And.intro hb (And.intro hx (And.intro hpk (And.intro hws (And.intro hse heo))))))))
      clear hown hus hb hx hcs hc ec hF hpk hws hse heo hn
      go_upto_region 5 with fail
      have hbA : Below wo.heap.size wo (wo.alloc (.cells #[.int .i64 a0, .string a1, .slice a2 a3 a4, .slice a5 a6 a7, .int .i64 a8, .int .i64 a9, .float .f64 aa, .string ab, .slice ac ad ae, .slice af ag ah, .int .i64 ai] 33)) := (Below.refl _ _).alloc (Nat.le_refl _) _
      have hbe := Bk.new wo 33 #[.int .i64 a0, .string a1, .slice a2 a3 a4, .slice a5 a6 a7, .int .i64 a8, .int .i64 a9, .float .f64 aa, .string ab, .slice ac ad ae, .slice af ag ah, .int .i64 ai]
      clear m0 m1 m2 m3 m4 m5 m6 m7 m8 m9 m10
      generalize World.alloc wo _ = w1 at hbA hbe ⊢
      have H1 := hide (And.intro hbA hbe)
      clear hbA hbe
      go_wp2_with fail
      go_loopw [6] (fun s W => SEIn w1 S fx.elem s W) (fun s _ => (intOf s).toNat)
      case atStart => exact ⟨n, rfl, by rw [Hn.out]; exact Nat.le_refl _, fun i a hi ha => by have := (List.getElem?_eq_some_iff.1 ha).1; rw [Hn.out] at this; omega, Below.refl _ _⟩
      case round =>
        obtain ⟨m, rfl, hm, hgt, hbi⟩ := hrel
        rw [Hn.out] at hm
        by_cases hm0 : m = 0
        · subst hm0
          have hins : insC E.cmp fx.elem S = S.take 0 ++ fx.elem :: S.drop 0 := insC_end_new E.ord_ Hq.out.2.2.2.2.2.2.2.2 Hq.out.2.2.2.2.2.1.1 Hq.out.2.2.2.2.2.1.2 (Nat.zero_le _) (fun i a hi ha => hgt i a hi ha) (fun m a h1 h2 => by omega)
          have Hins := hide hins
          have Hx := hide (show Below wo.heap.size wo wr.drew.drew ∧ Bk wr.drew.drew wo.heap.size 33 #[.int .i64 a0, .string a1, .slice a2 a3 a4, .slice a5 a6 a7, .int .i64 a8, .int .i64 a9, .float .f64 aa, .string ab, .slice ac ad ae, .slice af ag ah, .int .i64 ai] from ⟨below_drew (below_drew (H1.out.1.trans (hbi.mono H1.out.1.size))), (H1.out.2.below hbi H1.out.2.lt).drew.drew⟩)
          clear hgt hbi hins
          rw [show ((0 : Nat) : Int) = 0 from rfl]
          go_wp2_with fail
          obtain ⟨SS, hSS⟩ : ∃ S : World → Prop, (fun _ => True) = S := ⟨_, rfl⟩
          have hS0 : SS wr.drew := by rw [← hSS]; trivial
          refine wp_region_head 11 SS (by rfl) (by kernel_rfl) ?_
          refine HT.take 0 (v := ?_) rfl (by kernel_rfl) (fun _ _ _ h => h) (Or.inl ⟨by rfl, ?_⟩) (by assumption) ?_
          rotate_left
          · intro W hSw; go_simp; with_reducible rfl
          simp only [Act.put, List.setIfInBounds_toArray, List.set_cons_zero, List.set_cons_succ]
          refine HT.take 1 (v := ?_) rfl (by kernel_rfl) (fun _ _ _ h => h) (Or.inl ⟨by rfl, ?_⟩) (by assumption) ?_
          rotate_left
          · intro W hSw; go_simp; with_reducible rfl
          simp only [Act.put, List.setIfInBounds_toArray, List.set_cons_zero, List.set_cons_succ]
          refine HT.take 2 (v := ?_) rfl (by kernel_rfl) (fun _ _ _ h => h) (Or.inl ⟨by rfl, ?_⟩) (by assumption) ?_
          rotate_left
          · intro W hSw; go_simp; with_reducible rfl
          simp only [Act.put, List.setIfInBounds_toArray, List.set_cons_zero, List.set_cons_succ]
          refine HT.take 3 (v := undef) rfl (by kernel_rfl) (fun _ _ _ h => h) (Or.inr ⟨by rfl, rfl⟩) (by assumption) ?_
          simp only [Act.put, List.setIfInBounds_toArray, List.set_cons_zero, List.set_cons_succ]
          refine HT.take 4 (v := undef) rfl (by kernel_rfl) (fun _ _ _ h => h) (Or.inr ⟨by rfl, rfl⟩) (by assumption) ?_
          simp only [Act.put, List.setIfInBounds_toArray, List.set_cons_zero, List.set_cons_succ]
          refine HT.take 5 (v := undef) rfl (by kernel_rfl) (fun _ _ _ h => h) (Or.inr ⟨by rfl, rfl⟩) (by assumption) ?_
          simp only [Act.put, List.setIfInBounds_toArray, List.set_cons_zero, List.set_cons_succ]
          refine HT.take 6 (v := undef) rfl (by kernel_rfl) (fun _ _ _ h => h) (Or.inr ⟨by rfl, rfl⟩) (by assumption) ?_
          simp only [Act.put, List.setIfInBounds_toArray, List.set_cons_zero, List.set_cons_succ]
          refine HT.take 7 (v := undef) rfl (by kernel_rfl) (fun _ _ _ h => h) (Or.inr ⟨by rfl, rfl⟩) (by assumption) ?_
          simp only [Act.put, List.setIfInBounds_toArray, List.set_cons_zero, List.set_cons_succ]
          refine HT.take 8 (v := undef) rfl (by kernel_rfl) (fun _ _ _ h => h) (Or.inr ⟨by rfl, rfl⟩) (by assumption) ?_
          simp only [Act.put, List.setIfInBounds_toArray, List.set_cons_zero, List.set_cons_succ]
          refine HT.take 9 (v := undef) rfl (by kernel_rfl) (fun _ _ _ h => h) (Or.inr ⟨by rfl, rfl⟩) (by assumption) ?_
          simp only [Act.put, List.setIfInBounds_toArray, List.set_cons_zero, List.set_cons_succ]
          refine HT.take 10 (v := undef) rfl (by kernel_rfl) (fun _ _ _ h => h) (Or.inr ⟨by rfl, rfl⟩) (by assumption) ?_
          simp only [Act.put, List.setIfInBounds_toArray, List.set_cons_zero, List.set_cons_succ]
          refine HT.done (by kernel_rfl) ?_
          simp only [List.drop_succ_cons, List.drop_zero]
          change wpList _ _ _ _ _ wr.drew
          clear hS0 hSS SS
          go_wp2_with fail
          obtain ⟨SS, hSS⟩ : ∃ S : World → Prop, (fun _ => True) = S := ⟨_, rfl⟩
          have hS0 : SS wr.drew.drew := by rw [← hSS]; trivial
          refine wp_region_head 11 SS (by rfl) (by kernel_rfl) ?_
          refine HT.take 0 (v := ?_) rfl (by kernel_rfl) (fun _ _ _ h => h) (Or.inl ⟨by rfl, ?_⟩) (by assumption) ?_
          rotate_left
          · intro W hSw; go_simp; with_reducible rfl
          simp only [Act.put, List.setIfInBounds_toArray, List.set_cons_zero, List.set_cons_succ]
          refine HT.take 1 (v := ?_) rfl (by kernel_rfl) (fun _ _ _ h => h) (Or.inl ⟨by rfl, ?_⟩) (by assumption) ?_
          rotate_left
          · intro W hSw; go_simp; with_reducible rfl
          simp only [Act.put, List.setIfInBounds_toArray, List.set_cons_zero, List.set_cons_succ]
          refine HT.take 2 (v := ?_) rfl (by kernel_rfl) (fun _ _ _ h => h) (Or.inl ⟨by rfl, ?_⟩) (by assumption) ?_
          rotate_left
          · intro W hSw; go_simp; with_reducible rfl
          simp only [Act.put, List.setIfInBounds_toArray, List.set_cons_zero, List.set_cons_succ]
          refine HT.take 3 (v := undef) rfl (by kernel_rfl) (fun _ _ _ h => h) (Or.inr ⟨by rfl, rfl⟩) (by assumption) ?_
          simp only [Act.put, List.setIfInBounds_toArray, List.set_cons_zero, List.set_cons_succ]
          refine HT.take 4 (v := undef) rfl (by kernel_rfl) (fun _ _ _ h => h) (Or.inr ⟨by rfl, rfl⟩) (by assumption) ?_
          simp only [Act.put, List.setIfInBounds_toArray, List.set_cons_zero, List.set_cons_succ]
          refine HT.take 5 (v := undef) rfl (by kernel_rfl) (fun _ _ _ h => h) (Or.inr ⟨by rfl, rfl⟩) (by assumption) ?_
          simp only [Act.put, List.setIfInBounds_toArray, List.set_cons_zero, List.set_cons_succ]
          refine HT.take 6 (v := undef) rfl (by kernel_rfl) (fun _ _ _ h => h) (Or.inr ⟨by rfl, rfl⟩) (by assumption) ?_
          simp only [Act.put, List.setIfInBounds_toArray, List.set_cons_zero, List.set_cons_succ]
          refine HT.take 7 (v := undef) rfl (by kernel_rfl) (fun _ _ _ h => h) (Or.inr ⟨by rfl, rfl⟩) (by assumption) ?_
          simp only [Act.put, List.setIfInBounds_toArray, List.set_cons_zero, List.set_cons_succ]
          refine HT.take 8 (v := undef) rfl (by kernel_rfl) (fun _ _ _ h => h) (Or.inr ⟨by rfl, rfl⟩) (by assumption) ?_
          simp only [Act.put, List.setIfInBounds_toArray, List.set_cons_zero, List.set_cons_succ]
          refine HT.take 9 (v := undef) rfl (by kernel_rfl) (fun _ _ _ h => h) (Or.inr ⟨by rfl, rfl⟩) (by assumption) ?_
          simp only [Act.put, List.setIfInBounds_toArray, List.set_cons_zero, List.set_cons_succ]
          refine HT.take 10 (v := undef) rfl (by kernel_rfl) (fun _ _ _ h => h) (Or.inr ⟨by rfl, rfl⟩) (by assumption) ?_
          simp only [Act.put, List.setIfInBounds_toArray, List.set_cons_zero, List.set_cons_succ]
          refine HT.done (by kernel_rfl) ?_
          simp only [List.drop_succ_cons, List.drop_zero]
          change wpList _ _ _ _ _ wr.drew.drew
          clear hS0 hSS SS
          generalize wr.drew.drew = wx at *
          have hwx : wo.heap.size ≤ wx.heap.size := Hx.out.1.size
          go_wp2_with (at_builtin; go_loud (refine wpList_append_row _ rfl (.tmp 41) (.tmp 43) 22 rfl w.heap.size 33 i9 _ 11 168 Tryz.underlying22 hi9 hz9 hs9 hb9 rfl (by omega) _ n us rfl ((ownsRow_below Hq.out.1 Hx.out.1 (Nat.le_refl _)).alloc _) (fun _ => True) (some ⟨wx.heap.size, 0, none⟩) 1 1 [.int .i64 0, .string ⟨#[]⟩, .slice none 0 0, .slice none 0 0, .int .i64 0, .int .i64 0, .float .f64 0, .string ⟨#[]⟩, .slice none 0 0, .slice none 0 0, .int .i64 0] rfl (Row.of_bkp (Bk.new wx 33 ([.int .i64 0, .string ⟨#[]⟩, .slice none 0 0, .slice none 0 0, .int .i64 0, .int .i64 0, .float .f64 0, .string ⟨#[]⟩, .slice none 0 0, .slice none 0 0, .int .i64 0] : List Value).toArray) rfl trivial) (by simp [Value.oneCell']) (by omega) (by omega) (by rw [World.size_alloc]; omega) ?_))
          intro out' w3 hown3 hg3 hat3
          obtain ⟨oA', oc', rfl, hoc1, hoc2⟩ := own_form hown3
          obtain ⟨g, cur, rfl, hgB, hgc, hnc, hcm, hcs, hct⟩ := insrow_open (k := 11) (by decide) hown3 Hq.out.2.2.1
          have hcm' : oc' ≤ 9223372036854775807 := hcm
          have hlo := Hq.out.1.lt
          have hbX := Hx.out.1.size
          have hb3 : Below w.heap.size w w3 := ((Hq.out.2.2.2.1.trans (Hx.out.1.mono Hq.out.2.2.2.1.size)).alloc (by omega) _).grown hg3 (by rw [World.size_alloc]; omega) fun k e => (hlo k e).1
          have hbe3 : Bk w3 wo.heap.size 33 #[.int .i64 a0, .string a1, .slice a2 a3 a4, .slice a5 a6 a7, .int .i64 a8, .int .i64 a9, .float .f64 aa, .string ab, .slice ac ad ae, .slice af ag ah, .int .i64 ai] := (Hx.out.2.alloc _).grown hg3 (fun e => by have := (hlo _ e.symm).2; omega)
          have hgne : wo.heap.size ≠ g := by
            rcases hat3 with e | e
            · intro e2; have := (hlo g (e.symm.trans rfl)).2; omega
            · intro e2; have e3 := Option.some.inj e; have e4 : g = _ := e3; have := Hx.out.2.lt; omega
          have hkO : ∀ b, FrX w.heap.size wo (.slice oA n oc) b → w3.heap[b]? = wo.heap[b]? ∧ b ≠ g ∧ b < w3.heap.size := by
            rintro b ⟨q1, q2, q3⟩
            have h2 := hg3.size
            rw [World.size_alloc] at h2
            refine ⟨by rw [hg3.block b (by rw [World.size_alloc]; omega) q3, Below.heap_alloc _ _ _ (by omega), Hx.out.1.block b q2], ?_, by omega⟩
            rcases hat3 with e | e
            · intro e2; subst e2; exact q3 e
            · intro e2; have e3 := Option.some.inj e; have e4 : g = _ := e3; omega
          have H3 := hide (And.intro hgc (And.intro hb3 (And.intro hbe3 hkO)))
          have Hcur := hide (And.intro hcs hct)
          have hgl3 := (Array.getElem?_eq_some_iff.1 hgc).1
          have hw30 : w.heap.size ≤ w3.heap.size := hb3.size
          have hones := Hones.out
          clear hown3 hg3 hat3 hgc hcs hct hb3 hbe3 hlo hkO hbX hones
          by_cases hend : n = 0
          · have Hend := hide hend
            have hend1 : n ≤ 0 := by omega
            clear hend
            have hw1 : IntKind.i64.wrap 1 = 1 := by rfl
            have htn : (1 : Int).toNat = 1 := by rfl
            have hii1 : (1 : Int) ≤ (n : Int) + 1 := by omega
            have hle1 : (0 : Int) ≤ (n : Int) + 1 := by omega
            have hle2 : (0 : Int) < (n : Int) + 1 := by omega
            have hin : (0 : Int) ≤ (n : Int) := by omega
            have hlc : (n : Int) + 1 ≤ (oc' : Int) := by omega
            have hb4 : ¬ oc' = 0 := by omega
            by_cases hcap : oc' = 1
            · subst hcap
              go_wp2_with fail
              go_still_tail 7, (by kernel_rfl)
              change wpList _ _ _ _ _ w3.drew
              refine wpList_copy_eq _ rfl _ _ 22 22 rfl _ _ rfl rfl (run_copy_zero w3.drew 22 22 _ 33 11 _ _ _ _ _ _ (by have := Hend.out; omega) Tryz.underlying22 (by kernel_rfl)) ?_
              have hsh : shifted 11 0 us cur = cur := by rw [show 0 = n from Hend.out.symm]; exact shifted_end Hq.out.2.2.1
              have H4 := hide (show Below w.heap.size w w3.drew ∧ w3.drew.heap[g]? = some (.cells (shifted 11 0 us cur) 33 (0, 0)) ∧ Bk w3.drew wo.heap.size 33 #[.int .i64 a0, .string a1, .slice a2 a3 a4, .slice a5 a6 a7, .int .i64 a8, .int .i64 a9, .float .f64 aa, .string ab, .slice ac ad ae, .slice af ag ah, .int .i64 ai] ∧ (∀ b, FrX w.heap.size wo (.slice oA n oc) b → w3.drew.heap[b]? = wo.heap[b]? ∧ b ≠ g ∧ b < w3.drew.heap.size) ∧ g < w3.drew.heap.size ∧ True from
                ⟨below_drew H3.out.2.1, by rw [hsh]; exact H3.out.1, H3.out.2.2.1, H3.out.2.2.2, hgl3, trivial⟩)
              clear hsh H3
              clear hii1 hw1 htn hle1 hle2 hin
              generalize w3.drew = w4 at *

              have hR4 := H4.out.2.2.1
              obtain ⟨p0, p1, p2, p3, p4, p5, p6, p7, p8, p9, p10⟩ := hR4.cells11
              clear hR4
              have hel4 := H4.out.2.2.1.lt
              go_wp2_with fail
              refine ((Hclean.out w4 H4.out.1)).mono ?_
              rintro en w5 ⟨es, rfl, hes, hb5⟩
              obtain ⟨e0, e1, e2, e3, e4, e5, e6, e7, e8, e9, ea, eb, ec', ed, ee, ef, eg, eh, ei, rfl⟩ := hes.form
              have hg5 : w5.heap[g]? = some (.cells (shifted 11 0 us cur) 33 (0, 0)) := (hb5.block g H4.out.2.2.2.2.1).trans H4.out.2.1
              have hsz5 := shifted_size (k := 11) (i := 0) Hq.out.2.2.1 Hcur.out.1 (by omega) hnc
              have hI11 : 0 * 11 + 11 ≤ 1 * 11 := by omega
              have hfin := insrow_close (i := 0) (vs := ([.int .i64 e0, .string e1, .slice e2 e3 e4, .slice e5 e6 e7, .int .i64 e8, .int .i64 e9, .float .f64 ea, .string eb, .slice ec' ed ee, .slice ef eg eh, .int .i64 ei] : List Value)) hgB hg5 hnc hcm Hcur.out.1 Hcur.out.2 Hq.out.2.2.1 rfl (by omega)
              obtain ⟨ar, har⟩ : ∃ ar, ((shifted 11 0 us cur).toList.take (0 * 11) ++ ([.int .i64 e0, .string e1, .slice e2 e3 e4, .slice e5 e6 e7, .int .i64 e8, .int .i64 e9, .float .f64 ea, .string eb, .slice ec' ed ee, .slice ef eg eh, .int .i64 ei] : List Value) ++ (shifted 11 0 us cur).toList.drop (0 * 11 + ([.int .i64 e0, .string e1, .slice e2 e3 e4, .slice e5 e6 e7, .int .i64 e8, .int .i64 e9, .float .f64 ea, .string eb, .slice ec' ed ee, .slice ef eg eh, .int .i64 ei] : List Value).length)).toArray = ar := ⟨_, rfl⟩
              rw [har] at hfin
              have hcells : Cells 11 (ElemAt (FrX w.heap.size (w5.setRow g ar) (.slice (some ⟨g, 0, none⟩) (n + 1) 1)) (w5.setRow g ar)) ((setE ((pel l).take (k + 1))).map E.toREl) (laid 11 0 ([.int .i64 e0, .string e1, .slice e2 e3 e4, .slice e5 e6 e7, .int .i64 e8, .int .i64 e9, .float .f64 ea, .string eb, .slice ec' ed ee, .slice ef eg eh, .int .i64 ei] : List Value) us) := by
                have e1 : (setE ((pel l).take (k + 1))).map E.toREl = (S.map E.toREl).take 0 ++ fx.elem.toREl :: (S.map E.toREl).drop 0 := by rw [Hq.out.2.2.2.2.2.2.2.1, Hins.out]; simp
                rw [e1]
                refine cells_laid (Hq.out.2.1.mono fun a cs h => (h.keeps fun b hb => ?_).mono fun b hb => ⟨hb.1, ?_, ?_⟩) ((hes.keeps fun b hb => ?_).mono fun b hb => ⟨?_, ?_, ?_⟩) rfl (by rw [List.length_map, Hn.out]; omega)
                · have h1 := H4.out.2.2.2.1 b hb
                  rw [setRow_other _ _ _ h1.2.1, hb5.block b h1.2.2]
                  exact h1.1
                · rw [(setRow_same _ _ _).2.2.2]
                  exact Nat.lt_of_lt_of_le (H4.out.2.2.2.1 b hb).2.2 hb5.size
                · intro e; exact (H4.out.2.2.2.1 b hb).2.1 (Option.some.inj e)
                · rw [setRow_other _ _ _ (by have := hb.1; have := H4.out.2.2.2.2.1; omega)]
                · have := hb.1; have := H4.out.1.size; omega
                · rw [(setRow_same _ _ _).2.2.2]; exact hb.2
                · intro e; have e4 : b = g := Option.some.inj e; have := hb.1; have := H4.out.2.2.2.2.1; omega
              have hbf : Below w.heap.size w (w5.setRow g ar) := below_setRow (H4.out.1.trans (hb5.mono H4.out.1.size)) hgB _
              have hlen : (setE ((pel l).take (k + 1))).length = n + 1 := by rw [Hq.out.2.2.2.2.2.2.2.1, Hins.out]; simp [Hn.out] <;> omega
              have Hf := hide (And.intro hfin (And.intro hcells (And.intro hbf hlen)))
              have Hg5 := hide (And.intro hg5 (And.intro hsz5 har))
              clear p0 p1 p2 p3 p4 p5 p6 p7 p8 p9 p10 hes hb5 hg5 hsz5 har hfin hcells hbf hlen H4 Hq Hx Hcur
              go_wp2_with (refine wpList_store_as (op := ⟨none, _, _, _, _, _⟩) rfl _ (.tmp 57) (.tmp 56) rfl g (0 * 11) 33 ([.int .i64 e0, .string e1, .slice e2 e3 e4, .slice e5 e6 e7, .int .i64 e8, .int .i64 e9, .float .f64 ea, .string eb, .slice ec' ed ee, .slice ef eg eh, .int .i64 ei] : List Value).toArray (shifted 11 0 us cur) ar rfl rfl Hg5.out.1 (by rw [Hg5.out.2.1]; exact hI11) (by kernel_rfl) (by simp [Value.oneCell']) Hg5.out.2.2 ?_)
              exact ⟨⟨k + 1, _, by go_num, by rw [pel_length]; omega, by rw [Hf.out.2.2.2]; exact Hf.out.1, Hf.out.2.1, Hf.out.2.2.1⟩, by simp [intOf]; omega⟩
            · have hb2 : ¬ oc' = 1 := hcap
              go_wp2_with fail
              go_still_tail 7, (by kernel_rfl)
              change wpList _ _ _ _ _ w3.drew
              refine wpList_copy_eq _ rfl _ _ 22 22 rfl _ _ rfl rfl (run_copy_zero w3.drew 22 22 _ 33 11 _ _ _ _ _ _ (by have := Hend.out; omega) Tryz.underlying22 (by kernel_rfl)) ?_
              have hsh : shifted 11 0 us cur = cur := by rw [show 0 = n from Hend.out.symm]; exact shifted_end Hq.out.2.2.1
              have H4 := hide (show Below w.heap.size w w3.drew ∧ w3.drew.heap[g]? = some (.cells (shifted 11 0 us cur) 33 (0, 0)) ∧ Bk w3.drew wo.heap.size 33 #[.int .i64 a0, .string a1, .slice a2 a3 a4, .slice a5 a6 a7, .int .i64 a8, .int .i64 a9, .float .f64 aa, .string ab, .slice ac ad ae, .slice af ag ah, .int .i64 ai] ∧ (∀ b, FrX w.heap.size wo (.slice oA n oc) b → w3.drew.heap[b]? = wo.heap[b]? ∧ b ≠ g ∧ b < w3.drew.heap.size) ∧ g < w3.drew.heap.size ∧ True from
                ⟨below_drew H3.out.2.1, by rw [hsh]; exact H3.out.1, H3.out.2.2.1, H3.out.2.2.2, hgl3, trivial⟩)
              clear hsh H3
              clear hii1 hw1 htn hle1 hle2 hin
              generalize w3.drew = w4 at *

              have hR4 := H4.out.2.2.1
              obtain ⟨p0, p1, p2, p3, p4, p5, p6, p7, p8, p9, p10⟩ := hR4.cells11
              clear hR4
              have hel4 := H4.out.2.2.1.lt
              go_wp2_with fail
              refine ((Hclean.out w4 H4.out.1)).mono ?_
              rintro en w5 ⟨es, rfl, hes, hb5⟩
              obtain ⟨e0, e1, e2, e3, e4, e5, e6, e7, e8, e9, ea, eb, ec', ed, ee, ef, eg, eh, ei, rfl⟩ := hes.form
              have hg5 : w5.heap[g]? = some (.cells (shifted 11 0 us cur) 33 (0, 0)) := (hb5.block g H4.out.2.2.2.2.1).trans H4.out.2.1
              have hsz5 := shifted_size (k := 11) (i := 0) Hq.out.2.2.1 Hcur.out.1 (by omega) hnc
              have hI11 : 0 * 11 + 11 ≤ oc' * 11 := by omega
              have hfin := insrow_close (i := 0) (vs := ([.int .i64 e0, .string e1, .slice e2 e3 e4, .slice e5 e6 e7, .int .i64 e8, .int .i64 e9, .float .f64 ea, .string eb, .slice ec' ed ee, .slice ef eg eh, .int .i64 ei] : List Value)) hgB hg5 hnc hcm Hcur.out.1 Hcur.out.2 Hq.out.2.2.1 rfl (by omega)
              obtain ⟨ar, har⟩ : ∃ ar, ((shifted 11 0 us cur).toList.take (0 * 11) ++ ([.int .i64 e0, .string e1, .slice e2 e3 e4, .slice e5 e6 e7, .int .i64 e8, .int .i64 e9, .float .f64 ea, .string eb, .slice ec' ed ee, .slice ef eg eh, .int .i64 ei] : List Value) ++ (shifted 11 0 us cur).toList.drop (0 * 11 + ([.int .i64 e0, .string e1, .slice e2 e3 e4, .slice e5 e6 e7, .int .i64 e8, .int .i64 e9, .float .f64 ea, .string eb, .slice ec' ed ee, .slice ef eg eh, .int .i64 ei] : List Value).length)).toArray = ar := ⟨_, rfl⟩
              rw [har] at hfin
              have hcells : Cells 11 (ElemAt (FrX w.heap.size (w5.setRow g ar) (.slice (some ⟨g, 0, none⟩) (n + 1) oc')) (w5.setRow g ar)) ((setE ((pel l).take (k + 1))).map E.toREl) (laid 11 0 ([.int .i64 e0, .string e1, .slice e2 e3 e4, .slice e5 e6 e7, .int .i64 e8, .int .i64 e9, .float .f64 ea, .string eb, .slice ec' ed ee, .slice ef eg eh, .int .i64 ei] : List Value) us) := by
                have e1 : (setE ((pel l).take (k + 1))).map E.toREl = (S.map E.toREl).take 0 ++ fx.elem.toREl :: (S.map E.toREl).drop 0 := by rw [Hq.out.2.2.2.2.2.2.2.1, Hins.out]; simp
                rw [e1]
                refine cells_laid (Hq.out.2.1.mono fun a cs h => (h.keeps fun b hb => ?_).mono fun b hb => ⟨hb.1, ?_, ?_⟩) ((hes.keeps fun b hb => ?_).mono fun b hb => ⟨?_, ?_, ?_⟩) rfl (by rw [List.length_map, Hn.out]; omega)
                · have h1 := H4.out.2.2.2.1 b hb
                  rw [setRow_other _ _ _ h1.2.1, hb5.block b h1.2.2]
                  exact h1.1
                · rw [(setRow_same _ _ _).2.2.2]
                  exact Nat.lt_of_lt_of_le (H4.out.2.2.2.1 b hb).2.2 hb5.size
                · intro e; exact (H4.out.2.2.2.1 b hb).2.1 (Option.some.inj e)
                · rw [setRow_other _ _ _ (by have := hb.1; have := H4.out.2.2.2.2.1; omega)]
                · have := hb.1; have := H4.out.1.size; omega
                · rw [(setRow_same _ _ _).2.2.2]; exact hb.2
                · intro e; have e4 : b = g := Option.some.inj e; have := hb.1; have := H4.out.2.2.2.2.1; omega
              have hbf : Below w.heap.size w (w5.setRow g ar) := below_setRow (H4.out.1.trans (hb5.mono H4.out.1.size)) hgB _
              have hlen : (setE ((pel l).take (k + 1))).length = n + 1 := by rw [Hq.out.2.2.2.2.2.2.2.1, Hins.out]; simp [Hn.out] <;> omega
              have Hf := hide (And.intro hfin (And.intro hcells (And.intro hbf hlen)))
              have Hg5 := hide (And.intro hg5 (And.intro hsz5 har))
              clear p0 p1 p2 p3 p4 p5 p6 p7 p8 p9 p10 hes hb5 hg5 hsz5 har hfin hcells hbf hlen H4 Hq Hx Hcur
              go_wp2_with (refine wpList_store_as (op := ⟨none, _, _, _, _, _⟩) rfl _ (.tmp 57) (.tmp 56) rfl g (0 * 11) 33 ([.int .i64 e0, .string e1, .slice e2 e3 e4, .slice e5 e6 e7, .int .i64 e8, .int .i64 e9, .float .f64 ea, .string eb, .slice ec' ed ee, .slice ef eg eh, .int .i64 ei] : List Value).toArray (shifted 11 0 us cur) ar rfl rfl Hg5.out.1 (by rw [Hg5.out.2.1]; exact hI11) (by kernel_rfl) (by simp [Value.oneCell']) Hg5.out.2.2 ?_)
              exact ⟨⟨k + 1, _, by go_num, by rw [pel_length]; omega, by rw [Hf.out.2.2.2]; exact Hf.out.1, Hf.out.2.1, Hf.out.2.2.1⟩, by simp [intOf]; omega⟩
          · have hb2 : ¬ oc' = 0 + 1 := by omega
            have hb4 : ¬ oc' = 0 := by omega
            have hw1 : IntKind.i64.wrap 1 = 1 := by rfl
            have htn : (1 : Int).toNat = 1 := by rfl
            have hii1 : (1 : Int) ≤ (n : Int) + 1 := by omega
            have hle1 : (0 : Int) ≤ (n : Int) + 1 := by omega
            have hle2 : (0 : Int) < (n : Int) + 1 := by omega
            have hin : (0 : Int) ≤ (n : Int) := by omega
            have hlc : (n : Int) + 1 ≤ (oc' : Int) := by omega
            go_wp2_with fail
            go_still_tail 7, (by kernel_rfl)
            change wpList _ _ _ _ _ w3.drew
            refine wpList_copy_eq _ rfl _ _ 22 22 rfl _ _ rfl rfl (insrow_copy (w := w3.drew) (k := 11) (i := 0) Tryz.underlying22 (by kernel_rfl) H3.out.1 hnc Hcur.out.1 Hcur.out.2 Hq.out.2.2.1 (by omega) Hones.out _ _ _ _ _ (by omega) (by omega)) ?_
            have H4 := hide (show Below w.heap.size w (w3.drew.setRow g (shifted 11 0 us cur)) ∧ (w3.drew.setRow g (shifted 11 0 us cur)).heap[g]? = some (.cells (shifted 11 0 us cur) 33 (0, 0)) ∧ Bk (w3.drew.setRow g (shifted 11 0 us cur)) wo.heap.size 33 #[.int .i64 a0, .string a1, .slice a2 a3 a4, .slice a5 a6 a7, .int .i64 a8, .int .i64 a9, .float .f64 aa, .string ab, .slice ac ad ae, .slice af ag ah, .int .i64 ai] ∧ (∀ b, FrX w.heap.size wo (.slice oA n oc) b → (w3.drew.setRow g (shifted 11 0 us cur)).heap[b]? = wo.heap[b]? ∧ b ≠ g ∧ b < (w3.drew.setRow g (shifted 11 0 us cur)).heap.size) ∧ g < (w3.drew.setRow g (shifted 11 0 us cur)).heap.size ∧ True from
              ⟨below_setRow (below_drew H3.out.2.1) hgB _, setRow_heap w3.drew g cur _ 33 (0, 0) H3.out.1, (setRow_other _ _ _ hgne).trans H3.out.2.2.1, fun b hb => ⟨(setRow_other _ _ _ (H3.out.2.2.2 b hb).2.1).trans (H3.out.2.2.2 b hb).1, (H3.out.2.2.2 b hb).2.1, by rw [(setRow_same _ _ _).2.2.2]; exact (H3.out.2.2.2 b hb).2.2⟩, by rw [(setRow_same _ _ _).2.2.2]; exact hgl3, trivial⟩)
            clear H3
            clear hii1 hw1 htn hle1 hle2 hin
            generalize w3.drew.setRow g _ = w4 at *

            have hR4 := H4.out.2.2.1
            obtain ⟨p0, p1, p2, p3, p4, p5, p6, p7, p8, p9, p10⟩ := hR4.cells11
            clear hR4
            have hel4 := H4.out.2.2.1.lt
            go_wp2_with fail
            refine ((Hclean.out w4 H4.out.1)).mono ?_
            rintro en w5 ⟨es, rfl, hes, hb5⟩
            obtain ⟨e0, e1, e2, e3, e4, e5, e6, e7, e8, e9, ea, eb, ec', ed, ee, ef, eg, eh, ei, rfl⟩ := hes.form
            have hg5 : w5.heap[g]? = some (.cells (shifted 11 0 us cur) 33 (0, 0)) := (hb5.block g H4.out.2.2.2.2.1).trans H4.out.2.1
            have hsz5 := shifted_size (k := 11) (i := 0) Hq.out.2.2.1 Hcur.out.1 (by omega) hnc
            have hI11 : 0 * 11 + 11 ≤ oc' * 11 := by omega
            have hfin := insrow_close (i := 0) (vs := ([.int .i64 e0, .string e1, .slice e2 e3 e4, .slice e5 e6 e7, .int .i64 e8, .int .i64 e9, .float .f64 ea, .string eb, .slice ec' ed ee, .slice ef eg eh, .int .i64 ei] : List Value)) hgB hg5 hnc hcm Hcur.out.1 Hcur.out.2 Hq.out.2.2.1 rfl (by omega)
            obtain ⟨ar, har⟩ : ∃ ar, ((shifted 11 0 us cur).toList.take (0 * 11) ++ ([.int .i64 e0, .string e1, .slice e2 e3 e4, .slice e5 e6 e7, .int .i64 e8, .int .i64 e9, .float .f64 ea, .string eb, .slice ec' ed ee, .slice ef eg eh, .int .i64 ei] : List Value) ++ (shifted 11 0 us cur).toList.drop (0 * 11 + ([.int .i64 e0, .string e1, .slice e2 e3 e4, .slice e5 e6 e7, .int .i64 e8, .int .i64 e9, .float .f64 ea, .string eb, .slice ec' ed ee, .slice ef eg eh, .int .i64 ei] : List Value).length)).toArray = ar := ⟨_, rfl⟩
            rw [har] at hfin
            have hcells : Cells 11 (ElemAt (FrX w.heap.size (w5.setRow g ar) (.slice (some ⟨g, 0, none⟩) (n + 1) oc')) (w5.setRow g ar)) ((setE ((pel l).take (k + 1))).map E.toREl) (laid 11 0 ([.int .i64 e0, .string e1, .slice e2 e3 e4, .slice e5 e6 e7, .int .i64 e8, .int .i64 e9, .float .f64 ea, .string eb, .slice ec' ed ee, .slice ef eg eh, .int .i64 ei] : List Value) us) := by
              have e1 : (setE ((pel l).take (k + 1))).map E.toREl = (S.map E.toREl).take 0 ++ fx.elem.toREl :: (S.map E.toREl).drop 0 := by rw [Hq.out.2.2.2.2.2.2.2.1, Hins.out]; simp
              rw [e1]
              refine cells_laid (Hq.out.2.1.mono fun a cs h => (h.keeps fun b hb => ?_).mono fun b hb => ⟨hb.1, ?_, ?_⟩) ((hes.keeps fun b hb => ?_).mono fun b hb => ⟨?_, ?_, ?_⟩) rfl (by rw [List.length_map, Hn.out]; omega)
              · have h1 := H4.out.2.2.2.1 b hb
                rw [setRow_other _ _ _ h1.2.1, hb5.block b h1.2.2]
                exact h1.1
              · rw [(setRow_same _ _ _).2.2.2]
                exact Nat.lt_of_lt_of_le (H4.out.2.2.2.1 b hb).2.2 hb5.size
              · intro e; exact (H4.out.2.2.2.1 b hb).2.1 (Option.some.inj e)
              · rw [setRow_other _ _ _ (by have := hb.1; have := H4.out.2.2.2.2.1; omega)]
              · have := hb.1; have := H4.out.1.size; omega
              · rw [(setRow_same _ _ _).2.2.2]; exact hb.2
              · intro e; have e4 : b = g := Option.some.inj e; have := hb.1; have := H4.out.2.2.2.2.1; omega
            have hbf : Below w.heap.size w (w5.setRow g ar) := below_setRow (H4.out.1.trans (hb5.mono H4.out.1.size)) hgB _
            have hlen : (setE ((pel l).take (k + 1))).length = n + 1 := by rw [Hq.out.2.2.2.2.2.2.2.1, Hins.out]; simp [Hn.out] <;> omega
            have Hf := hide (And.intro hfin (And.intro hcells (And.intro hbf hlen)))
            have Hg5 := hide (And.intro hg5 (And.intro hsz5 har))
            clear p0 p1 p2 p3 p4 p5 p6 p7 p8 p9 p10 hes hb5 hg5 hsz5 har hfin hcells hbf hlen H4 Hq Hx Hcur
            go_wp2_with (refine wpList_store_as (op := ⟨none, _, _, _, _, _⟩) rfl _ (.tmp 57) (.tmp 56) rfl g (0 * 11) 33 ([.int .i64 e0, .string e1, .slice e2 e3 e4, .slice e5 e6 e7, .int .i64 e8, .int .i64 e9, .float .f64 ea, .string eb, .slice ec' ed ee, .slice ef eg eh, .int .i64 ei] : List Value).toArray (shifted 11 0 us cur) ar rfl rfl Hg5.out.1 (by rw [Hg5.out.2.1]; exact hI11) (by kernel_rfl) (by simp [Value.oneCell']) Hg5.out.2.2 ?_)
            exact ⟨⟨k + 1, _, by go_num, by rw [pel_length]; omega, by rw [Hf.out.2.2.2]; exact Hf.out.1, Hf.out.2.1, Hf.out.2.2.1⟩, by simp [intOf]; omega⟩
        · obtain ⟨j, rfl⟩ : ∃ j, m = j + 1 := ⟨m - 1, by omega⟩
          have hjn : j < n := by omega
          obtain ⟨y, hy⟩ : ∃ y, S[j]? = some y := ⟨_, List.getElem?_eq_getElem (by rw [Hn.out]; exact hjn)⟩
          have hyc := Hq.out.2.1.2 j y.toREl (by rw [List.getElem?_map, hy]; rfl)
          have hyw := (Hq.out.2.2.2.2.2.2.1 y (List.mem_of_getElem? hy)).back
          generalize hds : (us.drop (j * 11)).take 11 = gcs at hyc
          obtain ⟨b0, b1, b2, b3, b4, b5, b6, b7, b8, b9, ba, bb, bc, bd, be, bf, bg, bh, bi, rfl⟩ := hyc.form
          obtain ⟨sb, so, rfl, hG, hd⟩ := rown_at (Row.of_own Hq.out.1 fun b hb => (Hq.out.1.lt b hb).2) hjn hds
          have hbw : Below wo.heap.size wo wr := H1.out.1.trans (hbi.mono H1.out.1.size)
          have hbe := H1.out.2.below hbi H1.out.2.lt
          have ec := (bcell hbw).1
          have n0 := (ec _ _ hG).trans (hd 0 _ rfl)
          have n1 := (ec _ _ hG).trans (hd 1 _ rfl)
          have n2 := (ec _ _ hG).trans (hd 2 _ rfl)
          have n3 := (ec _ _ hG).trans (hd 3 _ rfl)
          have n4 := (ec _ _ hG).trans (hd 4 _ rfl)
          have n5 := (ec _ _ hG).trans (hd 5 _ rfl)
          have n6 := (ec _ _ hG).trans (hd 6 _ rfl)
          have n7 := (ec _ _ hG).trans (hd 7 _ rfl)
          have n8 := (ec _ _ hG).trans (hd 8 _ rfl)
          have n9 := (ec _ _ hG).trans (hd 9 _ rfl)
          have n10 := (ec _ _ hG).trans (hd 10 _ rfl)
          rw [Nat.add_zero] at n0
          obtain ⟨p0, p1, p2, p3, p4, p5, p6, p7, p8, p9, p10⟩ := hbe.cells11
          have hgl := hbe.lt
          have hsl : sb < wr.heap.size := Nat.lt_of_lt_of_le hG hbw.size
          obtain ⟨v, hv⟩ : ∃ v, E.cmp y fx.elem = v := ⟨_, rfl⟩
          have HC := hide fun (W : World) (hb : Below wo.heap.size wo W) => specCompareElems_calls y.toREl fx W _ _ ((hyc.keeps (w' := W) (Keeps.below hb fun b hb => hb.2.1)).mono (G := Old W) fun b hb' => Nat.lt_of_lt_of_le hb'.2.1 hb.size) (Hq.out.2.2.2.2.1.at_ (Hq.out.2.2.2.1.trans (hb.mono Hq.out.2.2.2.1.size)))
          rw [hyw, hv] at HC
          have Hj := hide (And.intro hy (And.intro hv hgt))
          have Hw := hide (And.intro hbw (And.intro hbe (And.intro hbi (show ∀ o u, wo.cell? ⟨sb, o, none⟩ = some u → ∀ W, Below wo.heap.size wo W → W.cell? ⟨sb, o, none⟩ = some u from fun o u h W hW => ((bcell hW).1 _ _ hG).trans h))))
          have Hd := hide hd
          clear hd hyc hyw hds hG hbw hbe hbi ec hy hv hgt
          have e1 : IntKind.i64.wrap ((j : Int) + 1 - 1) = (j : Int) := by rw [IntWalk.i64_in _ (by omega)]; omega
          have e3 : IntKind.i64.wrap (j : Int) = (j : Int) := IntWalk.i64_in _ (by omega)
          have hji0 : (0 : Int) ≤ (j : Int) := Int.natCast_nonneg _
          have hji1 : (j : Int) < (n : Int) := by omega
          have hji2 : (0 : Int) < (j : Int) + 1 := by omega
          have hji3 : (0 : Int) ≤ (j : Int) + 1 := by omega
          rw [show ((j + 1 : Nat) : Int) = (j : Int) + 1 from rfl]
          go_wp2_with fail
          go_still_tail 9, (by kernel_rfl)
          change wpList _ _ _ _ _ wr.drew
          go_wp2_with fail
          refine (HC.out wr.drew (below_drew Hw.out.1)).mono ?_
          rintro e w2 ⟨rfl, hb2⟩
          have hb2' : Below wr.heap.size wr w2 := below_drew' hb2
          have hbe2 := Hw.out.2.1.below hb2' Hw.out.2.1.lt
          have hbw2 := Hw.out.1.trans (hb2'.mono Hw.out.1.size)
          have H2 := hide (And.intro hb2' (And.intro hbe2 hbw2))
          clear hb2 hb2' p0 p1 p2 p3 p4 p5 p6 p7 p8 p9 p10 n0 n1 n2 n3 n4 n5 n6 n7 n8 n9 n10
          by_cases hv : 0 < v
          · have hgt' : ∀ (i : Nat) a, j ≤ i → S[i]? = some a → 0 < E.cmp a fx.elem := fun i a hi ha => by
              by_cases hij : i = j
              · subst hij; rw [Hj.out.1] at ha; cases ha; rw [Hj.out.2.1]; exact hv
              · exact Hj.out.2.2 i a (by omega) ha
            have Hgt := hide hgt'
            clear hgt' hbe2 hbw2
            go_wp2_with fail
            exact ⟨⟨j, rfl, by rw [Hn.out]; omega, Hgt.out, Hw.out.2.2.1.trans (H2.out.1.mono Hw.out.2.2.1.size)⟩, by simp [intOf]⟩
          · obtain ⟨p0, p1, p2, p3, p4, p5, p6, p7, p8, p9, p10⟩ := hbe2.cells11
            have n0 := Hw.out.2.2.2 _ _ (Hd.out 0 _ rfl) _ hbw2
            have n1 := Hw.out.2.2.2 _ _ (Hd.out 1 _ rfl) _ hbw2
            have n2 := Hw.out.2.2.2 _ _ (Hd.out 2 _ rfl) _ hbw2
            have n3 := Hw.out.2.2.2 _ _ (Hd.out 3 _ rfl) _ hbw2
            have n4 := Hw.out.2.2.2 _ _ (Hd.out 4 _ rfl) _ hbw2
            have n5 := Hw.out.2.2.2 _ _ (Hd.out 5 _ rfl) _ hbw2
            have n6 := Hw.out.2.2.2 _ _ (Hd.out 6 _ rfl) _ hbw2
            have n7 := Hw.out.2.2.2 _ _ (Hd.out 7 _ rfl) _ hbw2
            have n8 := Hw.out.2.2.2 _ _ (Hd.out 8 _ rfl) _ hbw2
            have n9 := Hw.out.2.2.2 _ _ (Hd.out 9 _ rfl) _ hbw2
            have n10 := Hw.out.2.2.2 _ _ (Hd.out 10 _ rfl) _ hbw2
            rw [Nat.add_zero] at n0
            have hgl := hbe2.lt
            have hsl2 : sb < w2.heap.size := by have := H2.out.1.size; omega
            clear hbe2 hbw2
            go_wp2_with fail
            go_still_tail 9, (by kernel_rfl)
            change wpList _ _ _ _ _ w2.drew
            go_wp2_with fail
            refine (HC.out w2.drew (below_drew H2.out.2.2)).mono ?_
            rintro e w3 ⟨rfl, hb3⟩
            have hb3' : Below w2.heap.size w2 w3 := below_drew' hb3
            have Hx := hide (show Below wo.heap.size wo w3 ∧ Bk w3 wo.heap.size 33 #[.int .i64 a0, .string a1, .slice a2 a3 a4, .slice a5 a6 a7, .int .i64 a8, .int .i64 a9, .float .f64 aa, .string ab, .slice ac ad ae, .slice af ag ah, .int .i64 ai] from ⟨H2.out.2.2.trans (hb3'.mono H2.out.2.2.size), H2.out.2.1.below hb3' H2.out.2.1.lt⟩)
            clear hb3 hb3' p0 p1 p2 p3 p4 p5 p6 p7 p8 p9 p10 n0 n1 n2 n3 n4 n5 n6 n7 n8 n9 n10
            by_cases hv0 : v = 0
            · have hins : insC E.cmp fx.elem S = S := insC_end_eq E.ord_ Hq.out.2.2.2.2.2.2.2.2 Hq.out.2.2.2.2.2.1.1 Hq.out.2.2.2.2.2.1.2 Hj.out.1 (by rw [Hj.out.2.1]; exact hv0)
              have hfin : w3.ownsRow w.heap.size 33 11 (.slice (some ⟨sb, so, none⟩) n oc) (setE ((pel l).take (k + 1))).length us ∧ Cells 11 (ElemAt (FrX w.heap.size w3 (.slice (some ⟨sb, so, none⟩) n oc)) w3) ((setE ((pel l).take (k + 1))).map E.toREl) us ∧ Below w.heap.size w w3 := by
                rw [Hq.out.2.2.2.2.2.2.2.1, hins, Hn.out]
                exact ⟨ownsRow_below Hq.out.1 Hx.out.1 (Nat.le_refl _), Hq.out.2.1.mono fun a cs h => (h.keeps (Keeps.below Hx.out.1 fun b hb => hb.2.1)).mono fun b hb => ⟨hb.1, Nat.lt_of_lt_of_le hb.2.1 Hx.out.1.size, hb.2.2⟩, Hq.out.2.2.2.1.trans (Hx.out.1.mono Hq.out.2.2.2.1.size)⟩
              have Hfin := hide hfin
              clear hins hfin
              subst hv0
              go_wp2_with fail
              exact ⟨⟨k + 1, us, by go_num, by rw [pel_length]; omega, Hfin.out.1, Hfin.out.2.1, Hfin.out.2.2⟩, by simp [intOf]; omega⟩
            · have hins : insC E.cmp fx.elem S = S.take (j + 1) ++ fx.elem :: S.drop (j + 1) := insC_end_new E.ord_ Hq.out.2.2.2.2.2.2.2.2 Hq.out.2.2.2.2.2.1.1 Hq.out.2.2.2.2.2.1.2 (by rw [Hn.out]; omega) Hj.out.2.2 (fun m a h1 h2 => by have e : j = m := (by omega); subst e; rw [Hj.out.1] at h2; cases h2; rw [Hj.out.2.1]; omega)
              have hvb : (v == 0) = false := by simpa using hv0
              have Hins := hide hins
              clear hins
              generalize hoA : (some ⟨sb, so, none⟩ : Option Addr) = oA at *
              clear hoA
              generalize w3 = wx at *
              have hwx : wo.heap.size ≤ wx.heap.size := Hx.out.1.size
              go_wp2_with (at_builtin; go_loud (refine wpList_append_row _ rfl (.tmp 41) (.tmp 43) 22 rfl w.heap.size 33 i9 _ 11 168 Tryz.underlying22 hi9 hz9 hs9 hb9 rfl (by omega) _ n us rfl ((ownsRow_below Hq.out.1 Hx.out.1 (Nat.le_refl _)).alloc _) (fun _ => True) (some ⟨wx.heap.size, 0, none⟩) 1 1 [.int .i64 0, .string ⟨#[]⟩, .slice none 0 0, .slice none 0 0, .int .i64 0, .int .i64 0, .float .f64 0, .string ⟨#[]⟩, .slice none 0 0, .slice none 0 0, .int .i64 0] rfl (Row.of_bkp (Bk.new wx 33 ([.int .i64 0, .string ⟨#[]⟩, .slice none 0 0, .slice none 0 0, .int .i64 0, .int .i64 0, .float .f64 0, .string ⟨#[]⟩, .slice none 0 0, .slice none 0 0, .int .i64 0] : List Value).toArray) rfl trivial) (by simp [Value.oneCell']) (by omega) (by omega) (by rw [World.size_alloc]; omega) ?_))
              intro out' w3 hown3 hg3 hat3
              obtain ⟨oA', oc', rfl, hoc1, hoc2⟩ := own_form hown3
              obtain ⟨g, cur, rfl, hgB, hgc, hnc, hcm, hcs, hct⟩ := insrow_open (k := 11) (by decide) hown3 Hq.out.2.2.1
              have hcm' : oc' ≤ 9223372036854775807 := hcm
              have hlo := Hq.out.1.lt
              have hbX := Hx.out.1.size
              have hb3 : Below w.heap.size w w3 := ((Hq.out.2.2.2.1.trans (Hx.out.1.mono Hq.out.2.2.2.1.size)).alloc (by omega) _).grown hg3 (by rw [World.size_alloc]; omega) fun k e => (hlo k e).1
              have hbe3 : Bk w3 wo.heap.size 33 #[.int .i64 a0, .string a1, .slice a2 a3 a4, .slice a5 a6 a7, .int .i64 a8, .int .i64 a9, .float .f64 aa, .string ab, .slice ac ad ae, .slice af ag ah, .int .i64 ai] := (Hx.out.2.alloc _).grown hg3 (fun e => by have := (hlo _ e.symm).2; omega)
              have hgne : wo.heap.size ≠ g := by
                rcases hat3 with e | e
                · intro e2; have := (hlo g (e.symm.trans rfl)).2; omega
                · intro e2; have e3 := Option.some.inj e; have e4 : g = _ := e3; have := Hx.out.2.lt; omega
              have hkO : ∀ b, FrX w.heap.size wo (.slice oA n oc) b → w3.heap[b]? = wo.heap[b]? ∧ b ≠ g ∧ b < w3.heap.size := by
                rintro b ⟨q1, q2, q3⟩
                have h2 := hg3.size
                rw [World.size_alloc] at h2
                refine ⟨by rw [hg3.block b (by rw [World.size_alloc]; omega) q3, Below.heap_alloc _ _ _ (by omega), Hx.out.1.block b q2], ?_, by omega⟩
                rcases hat3 with e | e
                · intro e2; subst e2; exact q3 e
                · intro e2; have e3 := Option.some.inj e; have e4 : g = _ := e3; omega
              have H3 := hide (And.intro hgc (And.intro hb3 (And.intro hbe3 hkO)))
              have Hcur := hide (And.intro hcs hct)
              have hgl3 := (Array.getElem?_eq_some_iff.1 hgc).1
              have hw30 : w.heap.size ≤ w3.heap.size := hb3.size
              have hones := Hones.out
              clear hown3 hg3 hat3 hgc hcs hct hb3 hbe3 hlo hkO hbX hones
              by_cases hend : n = (j + 1)
              · have Hend := hide hend
                have hend1 : n ≤ (j + 1) := by omega
                clear hend
                have hii : (0 : Int) ≤ ((j : Int) + 1) := by omega
                have hii1 : (0 : Int) ≤ ((j : Int) + 1) + 1 := by omega
                have hin : ((j : Int) + 1) ≤ (n : Int) := by omega
                have hw1 : IntKind.i64.wrap (((j : Int) + 1) + 1) = ((j : Int) + 1) + 1 := IntWalk.i64_in _ (by omega)
                have htn0 : (((j : Int) + 1) : Int).toNat = (j + 1) := by omega
                have htn : (((j : Int) + 1) + 1 : Int).toNat = (j + 1) + 1 := by omega
                have hle1 : ((j : Int) + 1) + 1 ≤ (n : Int) + 1 := by omega
                have hle2 : ((j : Int) + 1) ≤ (n : Int) + 1 := by omega
                have hlt3 : ((j : Int) + 1) < (n : Int) + 1 := by omega
                have hlc : (n : Int) + 1 ≤ (oc' : Int) := by omega
                have hb4 : ¬ oc' = (j + 1) := by omega
                by_cases hcap : oc' = (j + 1) + 1
                · subst hcap
                  go_wp2_with fail
                  go_still_tail 7, (by kernel_rfl)
                  change wpList _ _ _ _ _ w3.drew
                  refine wpList_copy_eq _ rfl _ _ 22 22 rfl _ _ rfl rfl (run_copy_zero w3.drew 22 22 _ 33 11 _ _ _ _ _ _ (by have := Hend.out; omega) Tryz.underlying22 (by kernel_rfl)) ?_
                  have hsh : shifted 11 (j + 1) us cur = cur := by rw [show (j + 1) = n from Hend.out.symm]; exact shifted_end Hq.out.2.2.1
                  have H4 := hide (show Below w.heap.size w w3.drew ∧ w3.drew.heap[g]? = some (.cells (shifted 11 (j + 1) us cur) 33 (0, 0)) ∧ Bk w3.drew wo.heap.size 33 #[.int .i64 a0, .string a1, .slice a2 a3 a4, .slice a5 a6 a7, .int .i64 a8, .int .i64 a9, .float .f64 aa, .string ab, .slice ac ad ae, .slice af ag ah, .int .i64 ai] ∧ (∀ b, FrX w.heap.size wo (.slice oA n oc) b → w3.drew.heap[b]? = wo.heap[b]? ∧ b ≠ g ∧ b < w3.drew.heap.size) ∧ g < w3.drew.heap.size ∧ True from
                    ⟨below_drew H3.out.2.1, by rw [hsh]; exact H3.out.1, H3.out.2.2.1, H3.out.2.2.2, hgl3, trivial⟩)
                  clear hsh H3
                  clear hii1 hw1 htn hle1 hle2 hin
                  generalize w3.drew = w4 at *

                  have hR4 := H4.out.2.2.1
                  obtain ⟨p0, p1, p2, p3, p4, p5, p6, p7, p8, p9, p10⟩ := hR4.cells11
                  clear hR4
                  have hel4 := H4.out.2.2.1.lt
                  go_wp2_with fail
                  refine ((Hclean.out w4 H4.out.1)).mono ?_
                  rintro en w5 ⟨es, rfl, hes, hb5⟩
                  obtain ⟨e0, e1, e2, e3, e4, e5, e6, e7, e8, e9, ea, eb, ec', ed, ee, ef, eg, eh, ei, rfl⟩ := hes.form
                  have hg5 : w5.heap[g]? = some (.cells (shifted 11 (j + 1) us cur) 33 (0, 0)) := (hb5.block g H4.out.2.2.2.2.1).trans H4.out.2.1
                  have hsz5 := shifted_size (k := 11) (i := (j + 1)) Hq.out.2.2.1 Hcur.out.1 (by omega) hnc
                  have hI11 : (j + 1) * 11 + 11 ≤ ((j + 1) + 1) * 11 := by omega
                  have hfin := insrow_close (i := (j + 1)) (vs := ([.int .i64 e0, .string e1, .slice e2 e3 e4, .slice e5 e6 e7, .int .i64 e8, .int .i64 e9, .float .f64 ea, .string eb, .slice ec' ed ee, .slice ef eg eh, .int .i64 ei] : List Value)) hgB hg5 hnc hcm Hcur.out.1 Hcur.out.2 Hq.out.2.2.1 rfl (by omega)
                  obtain ⟨ar, har⟩ : ∃ ar, ((shifted 11 (j + 1) us cur).toList.take ((j + 1) * 11) ++ ([.int .i64 e0, .string e1, .slice e2 e3 e4, .slice e5 e6 e7, .int .i64 e8, .int .i64 e9, .float .f64 ea, .string eb, .slice ec' ed ee, .slice ef eg eh, .int .i64 ei] : List Value) ++ (shifted 11 (j + 1) us cur).toList.drop ((j + 1) * 11 + ([.int .i64 e0, .string e1, .slice e2 e3 e4, .slice e5 e6 e7, .int .i64 e8, .int .i64 e9, .float .f64 ea, .string eb, .slice ec' ed ee, .slice ef eg eh, .int .i64 ei] : List Value).length)).toArray = ar := ⟨_, rfl⟩
                  rw [har] at hfin
                  have hcells : Cells 11 (ElemAt (FrX w.heap.size (w5.setRow g ar) (.slice (some ⟨g, 0, none⟩) (n + 1) ((j + 1) + 1))) (w5.setRow g ar)) ((setE ((pel l).take (k + 1))).map E.toREl) (laid 11 (j + 1) ([.int .i64 e0, .string e1, .slice e2 e3 e4, .slice e5 e6 e7, .int .i64 e8, .int .i64 e9, .float .f64 ea, .string eb, .slice ec' ed ee, .slice ef eg eh, .int .i64 ei] : List Value) us) := by
                    have e1 : (setE ((pel l).take (k + 1))).map E.toREl = (S.map E.toREl).take (j + 1) ++ fx.elem.toREl :: (S.map E.toREl).drop (j + 1) := by rw [Hq.out.2.2.2.2.2.2.2.1, Hins.out]; simp
                    rw [e1]
                    refine cells_laid (Hq.out.2.1.mono fun a cs h => (h.keeps fun b hb => ?_).mono fun b hb => ⟨hb.1, ?_, ?_⟩) ((hes.keeps fun b hb => ?_).mono fun b hb => ⟨?_, ?_, ?_⟩) rfl (by rw [List.length_map, Hn.out]; omega)
                    · have h1 := H4.out.2.2.2.1 b hb
                      rw [setRow_other _ _ _ h1.2.1, hb5.block b h1.2.2]
                      exact h1.1
                    · rw [(setRow_same _ _ _).2.2.2]
                      exact Nat.lt_of_lt_of_le (H4.out.2.2.2.1 b hb).2.2 hb5.size
                    · intro e; exact (H4.out.2.2.2.1 b hb).2.1 (Option.some.inj e)
                    · rw [setRow_other _ _ _ (by have := hb.1; have := H4.out.2.2.2.2.1; omega)]
                    · have := hb.1; have := H4.out.1.size; omega
                    · rw [(setRow_same _ _ _).2.2.2]; exact hb.2
                    · intro e; have e4 : b = g := Option.some.inj e; have := hb.1; have := H4.out.2.2.2.2.1; omega
                  have hbf : Below w.heap.size w (w5.setRow g ar) := below_setRow (H4.out.1.trans (hb5.mono H4.out.1.size)) hgB _
                  have hlen : (setE ((pel l).take (k + 1))).length = n + 1 := by rw [Hq.out.2.2.2.2.2.2.2.1, Hins.out]; simp [Hn.out] <;> omega
                  have Hf := hide (And.intro hfin (And.intro hcells (And.intro hbf hlen)))
                  have Hg5 := hide (And.intro hg5 (And.intro hsz5 har))
                  clear p0 p1 p2 p3 p4 p5 p6 p7 p8 p9 p10 hes hb5 hg5 hsz5 har hfin hcells hbf hlen H4 Hq Hx Hcur
                  go_wp2_with (refine wpList_store_as (op := ⟨none, _, _, _, _, _⟩) rfl _ (.tmp 57) (.tmp 56) rfl g ((j + 1) * 11) 33 ([.int .i64 e0, .string e1, .slice e2 e3 e4, .slice e5 e6 e7, .int .i64 e8, .int .i64 e9, .float .f64 ea, .string eb, .slice ec' ed ee, .slice ef eg eh, .int .i64 ei] : List Value).toArray (shifted 11 (j + 1) us cur) ar rfl rfl Hg5.out.1 (by rw [Hg5.out.2.1]; exact hI11) (by kernel_rfl) (by simp [Value.oneCell']) Hg5.out.2.2 ?_)
                  exact ⟨⟨k + 1, _, by go_num, by rw [pel_length]; omega, by rw [Hf.out.2.2.2]; exact Hf.out.1, Hf.out.2.1, Hf.out.2.2.1⟩, by simp [intOf]; omega⟩
                · have hb2 : ¬ oc' = (j + 1) + 1 := hcap
                  go_wp2_with fail
                  go_still_tail 7, (by kernel_rfl)
                  change wpList _ _ _ _ _ w3.drew
                  refine wpList_copy_eq _ rfl _ _ 22 22 rfl _ _ rfl rfl (run_copy_zero w3.drew 22 22 _ 33 11 _ _ _ _ _ _ (by have := Hend.out; omega) Tryz.underlying22 (by kernel_rfl)) ?_
                  have hsh : shifted 11 (j + 1) us cur = cur := by rw [show (j + 1) = n from Hend.out.symm]; exact shifted_end Hq.out.2.2.1
                  have H4 := hide (show Below w.heap.size w w3.drew ∧ w3.drew.heap[g]? = some (.cells (shifted 11 (j + 1) us cur) 33 (0, 0)) ∧ Bk w3.drew wo.heap.size 33 #[.int .i64 a0, .string a1, .slice a2 a3 a4, .slice a5 a6 a7, .int .i64 a8, .int .i64 a9, .float .f64 aa, .string ab, .slice ac ad ae, .slice af ag ah, .int .i64 ai] ∧ (∀ b, FrX w.heap.size wo (.slice oA n oc) b → w3.drew.heap[b]? = wo.heap[b]? ∧ b ≠ g ∧ b < w3.drew.heap.size) ∧ g < w3.drew.heap.size ∧ True from
                    ⟨below_drew H3.out.2.1, by rw [hsh]; exact H3.out.1, H3.out.2.2.1, H3.out.2.2.2, hgl3, trivial⟩)
                  clear hsh H3
                  clear hii1 hw1 htn hle1 hle2 hin
                  generalize w3.drew = w4 at *

                  have hR4 := H4.out.2.2.1
                  obtain ⟨p0, p1, p2, p3, p4, p5, p6, p7, p8, p9, p10⟩ := hR4.cells11
                  clear hR4
                  have hel4 := H4.out.2.2.1.lt
                  go_wp2_with fail
                  refine ((Hclean.out w4 H4.out.1)).mono ?_
                  rintro en w5 ⟨es, rfl, hes, hb5⟩
                  obtain ⟨e0, e1, e2, e3, e4, e5, e6, e7, e8, e9, ea, eb, ec', ed, ee, ef, eg, eh, ei, rfl⟩ := hes.form
                  have hg5 : w5.heap[g]? = some (.cells (shifted 11 (j + 1) us cur) 33 (0, 0)) := (hb5.block g H4.out.2.2.2.2.1).trans H4.out.2.1
                  have hsz5 := shifted_size (k := 11) (i := (j + 1)) Hq.out.2.2.1 Hcur.out.1 (by omega) hnc
                  have hI11 : (j + 1) * 11 + 11 ≤ oc' * 11 := by omega
                  have hfin := insrow_close (i := (j + 1)) (vs := ([.int .i64 e0, .string e1, .slice e2 e3 e4, .slice e5 e6 e7, .int .i64 e8, .int .i64 e9, .float .f64 ea, .string eb, .slice ec' ed ee, .slice ef eg eh, .int .i64 ei] : List Value)) hgB hg5 hnc hcm Hcur.out.1 Hcur.out.2 Hq.out.2.2.1 rfl (by omega)
                  obtain ⟨ar, har⟩ : ∃ ar, ((shifted 11 (j + 1) us cur).toList.take ((j + 1) * 11) ++ ([.int .i64 e0, .string e1, .slice e2 e3 e4, .slice e5 e6 e7, .int .i64 e8, .int .i64 e9, .float .f64 ea, .string eb, .slice ec' ed ee, .slice ef eg eh, .int .i64 ei] : List Value) ++ (shifted 11 (j + 1) us cur).toList.drop ((j + 1) * 11 + ([.int .i64 e0, .string e1, .slice e2 e3 e4, .slice e5 e6 e7, .int .i64 e8, .int .i64 e9, .float .f64 ea, .string eb, .slice ec' ed ee, .slice ef eg eh, .int .i64 ei] : List Value).length)).toArray = ar := ⟨_, rfl⟩
                  rw [har] at hfin
                  have hcells : Cells 11 (ElemAt (FrX w.heap.size (w5.setRow g ar) (.slice (some ⟨g, 0, none⟩) (n + 1) oc')) (w5.setRow g ar)) ((setE ((pel l).take (k + 1))).map E.toREl) (laid 11 (j + 1) ([.int .i64 e0, .string e1, .slice e2 e3 e4, .slice e5 e6 e7, .int .i64 e8, .int .i64 e9, .float .f64 ea, .string eb, .slice ec' ed ee, .slice ef eg eh, .int .i64 ei] : List Value) us) := by
                    have e1 : (setE ((pel l).take (k + 1))).map E.toREl = (S.map E.toREl).take (j + 1) ++ fx.elem.toREl :: (S.map E.toREl).drop (j + 1) := by rw [Hq.out.2.2.2.2.2.2.2.1, Hins.out]; simp
                    rw [e1]
                    refine cells_laid (Hq.out.2.1.mono fun a cs h => (h.keeps fun b hb => ?_).mono fun b hb => ⟨hb.1, ?_, ?_⟩) ((hes.keeps fun b hb => ?_).mono fun b hb => ⟨?_, ?_, ?_⟩) rfl (by rw [List.length_map, Hn.out]; omega)
                    · have h1 := H4.out.2.2.2.1 b hb
                      rw [setRow_other _ _ _ h1.2.1, hb5.block b h1.2.2]
                      exact h1.1
                    · rw [(setRow_same _ _ _).2.2.2]
                      exact Nat.lt_of_lt_of_le (H4.out.2.2.2.1 b hb).2.2 hb5.size
                    · intro e; exact (H4.out.2.2.2.1 b hb).2.1 (Option.some.inj e)
                    · rw [setRow_other _ _ _ (by have := hb.1; have := H4.out.2.2.2.2.1; omega)]
                    · have := hb.1; have := H4.out.1.size; omega
                    · rw [(setRow_same _ _ _).2.2.2]; exact hb.2
                    · intro e; have e4 : b = g := Option.some.inj e; have := hb.1; have := H4.out.2.2.2.2.1; omega
                  have hbf : Below w.heap.size w (w5.setRow g ar) := below_setRow (H4.out.1.trans (hb5.mono H4.out.1.size)) hgB _
                  have hlen : (setE ((pel l).take (k + 1))).length = n + 1 := by rw [Hq.out.2.2.2.2.2.2.2.1, Hins.out]; simp [Hn.out] <;> omega
                  have Hf := hide (And.intro hfin (And.intro hcells (And.intro hbf hlen)))
                  have Hg5 := hide (And.intro hg5 (And.intro hsz5 har))
                  clear p0 p1 p2 p3 p4 p5 p6 p7 p8 p9 p10 hes hb5 hg5 hsz5 har hfin hcells hbf hlen H4 Hq Hx Hcur
                  go_wp2_with (refine wpList_store_as (op := ⟨none, _, _, _, _, _⟩) rfl _ (.tmp 57) (.tmp 56) rfl g ((j + 1) * 11) 33 ([.int .i64 e0, .string e1, .slice e2 e3 e4, .slice e5 e6 e7, .int .i64 e8, .int .i64 e9, .float .f64 ea, .string eb, .slice ec' ed ee, .slice ef eg eh, .int .i64 ei] : List Value).toArray (shifted 11 (j + 1) us cur) ar rfl rfl Hg5.out.1 (by rw [Hg5.out.2.1]; exact hI11) (by kernel_rfl) (by simp [Value.oneCell']) Hg5.out.2.2 ?_)
                  exact ⟨⟨k + 1, _, by go_num, by rw [pel_length]; omega, by rw [Hf.out.2.2.2]; exact Hf.out.1, Hf.out.2.1, Hf.out.2.2.1⟩, by simp [intOf]; omega⟩
              · have hb2 : ¬ oc' = (j + 1) + 1 := by omega
                have hb4 : ¬ oc' = (j + 1) := by omega
                have hii : (0 : Int) ≤ ((j : Int) + 1) := by omega
                have hii1 : (0 : Int) ≤ ((j : Int) + 1) + 1 := by omega
                have hin : ((j : Int) + 1) ≤ (n : Int) := by omega
                have hw1 : IntKind.i64.wrap (((j : Int) + 1) + 1) = ((j : Int) + 1) + 1 := IntWalk.i64_in _ (by omega)
                have htn0 : (((j : Int) + 1) : Int).toNat = (j + 1) := by omega
                have htn : (((j : Int) + 1) + 1 : Int).toNat = (j + 1) + 1 := by omega
                have hle1 : ((j : Int) + 1) + 1 ≤ (n : Int) + 1 := by omega
                have hle2 : ((j : Int) + 1) ≤ (n : Int) + 1 := by omega
                have hlt3 : ((j : Int) + 1) < (n : Int) + 1 := by omega
                have hlc : (n : Int) + 1 ≤ (oc' : Int) := by omega
                go_wp2_with fail
                go_still_tail 7, (by kernel_rfl)
                change wpList _ _ _ _ _ w3.drew
                refine wpList_copy_eq _ rfl _ _ 22 22 rfl _ _ rfl rfl (insrow_copy (w := w3.drew) (k := 11) (i := (j + 1)) Tryz.underlying22 (by kernel_rfl) H3.out.1 hnc Hcur.out.1 Hcur.out.2 Hq.out.2.2.1 (by omega) Hones.out _ _ _ _ _ (by omega) (by omega)) ?_
                have H4 := hide (show Below w.heap.size w (w3.drew.setRow g (shifted 11 (j + 1) us cur)) ∧ (w3.drew.setRow g (shifted 11 (j + 1) us cur)).heap[g]? = some (.cells (shifted 11 (j + 1) us cur) 33 (0, 0)) ∧ Bk (w3.drew.setRow g (shifted 11 (j + 1) us cur)) wo.heap.size 33 #[.int .i64 a0, .string a1, .slice a2 a3 a4, .slice a5 a6 a7, .int .i64 a8, .int .i64 a9, .float .f64 aa, .string ab, .slice ac ad ae, .slice af ag ah, .int .i64 ai] ∧ (∀ b, FrX w.heap.size wo (.slice oA n oc) b → (w3.drew.setRow g (shifted 11 (j + 1) us cur)).heap[b]? = wo.heap[b]? ∧ b ≠ g ∧ b < (w3.drew.setRow g (shifted 11 (j + 1) us cur)).heap.size) ∧ g < (w3.drew.setRow g (shifted 11 (j + 1) us cur)).heap.size ∧ True from
                  ⟨below_setRow (below_drew H3.out.2.1) hgB _, setRow_heap w3.drew g cur _ 33 (0, 0) H3.out.1, (setRow_other _ _ _ hgne).trans H3.out.2.2.1, fun b hb => ⟨(setRow_other _ _ _ (H3.out.2.2.2 b hb).2.1).trans (H3.out.2.2.2 b hb).1, (H3.out.2.2.2 b hb).2.1, by rw [(setRow_same _ _ _).2.2.2]; exact (H3.out.2.2.2 b hb).2.2⟩, by rw [(setRow_same _ _ _).2.2.2]; exact hgl3, trivial⟩)
                clear H3
                clear hii1 hw1 htn hle1 hle2 hin
                generalize w3.drew.setRow g _ = w4 at *

                have hR4 := H4.out.2.2.1
                obtain ⟨p0, p1, p2, p3, p4, p5, p6, p7, p8, p9, p10⟩ := hR4.cells11
                clear hR4
                have hel4 := H4.out.2.2.1.lt
                go_wp2_with fail
                refine ((Hclean.out w4 H4.out.1)).mono ?_
                rintro en w5 ⟨es, rfl, hes, hb5⟩
                obtain ⟨e0, e1, e2, e3, e4, e5, e6, e7, e8, e9, ea, eb, ec', ed, ee, ef, eg, eh, ei, rfl⟩ := hes.form
                have hg5 : w5.heap[g]? = some (.cells (shifted 11 (j + 1) us cur) 33 (0, 0)) := (hb5.block g H4.out.2.2.2.2.1).trans H4.out.2.1
                have hsz5 := shifted_size (k := 11) (i := (j + 1)) Hq.out.2.2.1 Hcur.out.1 (by omega) hnc
                have hI11 : (j + 1) * 11 + 11 ≤ oc' * 11 := by omega
                have hfin := insrow_close (i := (j + 1)) (vs := ([.int .i64 e0, .string e1, .slice e2 e3 e4, .slice e5 e6 e7, .int .i64 e8, .int .i64 e9, .float .f64 ea, .string eb, .slice ec' ed ee, .slice ef eg eh, .int .i64 ei] : List Value)) hgB hg5 hnc hcm Hcur.out.1 Hcur.out.2 Hq.out.2.2.1 rfl (by omega)
                obtain ⟨ar, har⟩ : ∃ ar, ((shifted 11 (j + 1) us cur).toList.take ((j + 1) * 11) ++ ([.int .i64 e0, .string e1, .slice e2 e3 e4, .slice e5 e6 e7, .int .i64 e8, .int .i64 e9, .float .f64 ea, .string eb, .slice ec' ed ee, .slice ef eg eh, .int .i64 ei] : List Value) ++ (shifted 11 (j + 1) us cur).toList.drop ((j + 1) * 11 + ([.int .i64 e0, .string e1, .slice e2 e3 e4, .slice e5 e6 e7, .int .i64 e8, .int .i64 e9, .float .f64 ea, .string eb, .slice ec' ed ee, .slice ef eg eh, .int .i64 ei] : List Value).length)).toArray = ar := ⟨_, rfl⟩
                rw [har] at hfin
                have hcells : Cells 11 (ElemAt (FrX w.heap.size (w5.setRow g ar) (.slice (some ⟨g, 0, none⟩) (n + 1) oc')) (w5.setRow g ar)) ((setE ((pel l).take (k + 1))).map E.toREl) (laid 11 (j + 1) ([.int .i64 e0, .string e1, .slice e2 e3 e4, .slice e5 e6 e7, .int .i64 e8, .int .i64 e9, .float .f64 ea, .string eb, .slice ec' ed ee, .slice ef eg eh, .int .i64 ei] : List Value) us) := by
                  have e1 : (setE ((pel l).take (k + 1))).map E.toREl = (S.map E.toREl).take (j + 1) ++ fx.elem.toREl :: (S.map E.toREl).drop (j + 1) := by rw [Hq.out.2.2.2.2.2.2.2.1, Hins.out]; simp
                  rw [e1]
                  refine cells_laid (Hq.out.2.1.mono fun a cs h => (h.keeps fun b hb => ?_).mono fun b hb => ⟨hb.1, ?_, ?_⟩) ((hes.keeps fun b hb => ?_).mono fun b hb => ⟨?_, ?_, ?_⟩) rfl (by rw [List.length_map, Hn.out]; omega)
                  · have h1 := H4.out.2.2.2.1 b hb
                    rw [setRow_other _ _ _ h1.2.1, hb5.block b h1.2.2]
                    exact h1.1
                  · rw [(setRow_same _ _ _).2.2.2]
                    exact Nat.lt_of_lt_of_le (H4.out.2.2.2.1 b hb).2.2 hb5.size
                  · intro e; exact (H4.out.2.2.2.1 b hb).2.1 (Option.some.inj e)
                  · rw [setRow_other _ _ _ (by have := hb.1; have := H4.out.2.2.2.2.1; omega)]
                  · have := hb.1; have := H4.out.1.size; omega
                  · rw [(setRow_same _ _ _).2.2.2]; exact hb.2
                  · intro e; have e4 : b = g := Option.some.inj e; have := hb.1; have := H4.out.2.2.2.2.1; omega
                have hbf : Below w.heap.size w (w5.setRow g ar) := below_setRow (H4.out.1.trans (hb5.mono H4.out.1.size)) hgB _
                have hlen : (setE ((pel l).take (k + 1))).length = n + 1 := by rw [Hq.out.2.2.2.2.2.2.2.1, Hins.out]; simp [Hn.out] <;> omega
                have Hf := hide (And.intro hfin (And.intro hcells (And.intro hbf hlen)))
                have Hg5 := hide (And.intro hg5 (And.intro hsz5 har))
                clear p0 p1 p2 p3 p4 p5 p6 p7 p8 p9 p10 hes hb5 hg5 hsz5 har hfin hcells hbf hlen H4 Hq Hx Hcur
                go_wp2_with (refine wpList_store_as (op := ⟨none, _, _, _, _, _⟩) rfl _ (.tmp 57) (.tmp 56) rfl g ((j + 1) * 11) 33 ([.int .i64 e0, .string e1, .slice e2 e3 e4, .slice e5 e6 e7, .int .i64 e8, .int .i64 e9, .float .f64 ea, .string eb, .slice ec' ed ee, .slice ef eg eh, .int .i64 ei] : List Value).toArray (shifted 11 (j + 1) us cur) ar rfl rfl Hg5.out.1 (by rw [Hg5.out.2.1]; exact hI11) (by kernel_rfl) (by simp [Value.oneCell']) Hg5.out.2.2 ?_)
                exact ⟨⟨k + 1, _, by go_num, by rw [pel_length]; omega, by rw [Hf.out.2.2.2]; exact Hf.out.1, Hf.out.2.1, Hf.out.2.2.1⟩, by simp [intOf]; omega⟩
    · have hke : k = l.length := by omega
      subst hke
      have hki1 : ¬ ((l.length : Nat) : Int) < (l.length : Int) := by omega
      have hpl := setE_ok Hok.out
      have hll := hpl.2.2
      rw [List.take_of_length_le (by rw [pel_length]; omega)] at hus hown
      rw [pel_length] at hll
      obtain ⟨oA, oc, rfl, hc1, hc2⟩ := own_form hown
      have hlt2 := hown.lt
      have hfin : PathAt (Fr w.heap.size wr) wr ((setE (pel l)).map E.toREl) oA oc := ⟨by rw [List.length_map]; unfold R47; omega, by rw [List.length_map]; exact hc1, hc2, us, by rw [List.length_map]; exact Row.of_own hown hlt2, hus.mono fun a cs h => h.mono fun b hb => ⟨hb.1, hb.2.1⟩⟩
      have H3 := hide (And.intro hb hfin)
      have Hlm := hide (show ((setE (pel l)).map E.toREl).length = (setE (pel l)).length from List.length_map _)
      clear hb hown hus hlt2 hc1 hc2 hfin hpl hll
      go_wp2
      go_ret
      exact ⟨oA, oc, by rw [Hlm.out]; rfl, H3.out.2, H3.out.1⟩

end Go.Proofs.YtajeghkjppkhcaaGreat
