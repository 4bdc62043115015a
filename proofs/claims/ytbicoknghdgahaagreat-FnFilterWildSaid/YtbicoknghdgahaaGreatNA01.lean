/- Parts: FiltP, ElemCmp, ElemSetM, ElemSetTo, MgM, FiltM. -/
import Derived.Test.YtbicoknghdgahaaGreatKB16
import Derived.Test.YtbicoknghdgahaaGreatKJ03
set_option linter.unusedVariables false
set_option linter.unusedSimpArgs false
namespace Go.Proofs.YtbicoknghdgahaaGreat

inductive Mt where
 | mk (all : Bool) (ms : List (Option E × Mt))
def Mt.all : Mt → Bool
 | .mk a _ => a
def Mt.ms : Mt → List (Option E × Mt)
 | .mk _ m => m
def okM (e : E) (p : Option E × Mt) : Bool := match p.1 with
 | none => true
 | some x => E.eqv x e
def hitM (e : E) (ms : List (Option E × Mt)) : Option (Option E × Mt) := ms.find? (okM e)
mutual
def filtS : St → Mt → St
 | .mk m ks, x => if x.all = true then .mk m ks else .mk (m.filter fun e => (hitM e x.ms).isSome) (filtK ks x)
def filtK : List (E × St) → Mt → List (E × St)
 | [], _ => []
 | (e, s) :: r, x => (match hitM e x.ms with
  | some c => if 0 < (filtS s c.2).paths.length then [(e, filtS s c.2)] else []
  | none => []) ++ filtK r x
end
def filt1 (x : Mt) (k : E × St) : List (E × St) := match hitM k.1 x.ms with
 | some c => if 0 < (filtS k.2 c.2).paths.length then [(k.1, filtS k.2 c.2)] else []
 | none => []
theorem filtK_cons {k : E × St} {r : List (E × St)} {x : Mt} : filtK (k :: r) x = filt1 x k ++ filtK r x := by
 obtain ⟨e, s⟩ := k
 rw [filtK]
 rfl
theorem filtK_append {a b : List (E × St)} {x : Mt} : filtK (a ++ b) x = filtK a x ++ filtK b x := by
 induction a with
 | nil => rw [List.nil_append, filtK, List.nil_append]
 | cons k a ih => rw [List.cons_append, filtK_cons, filtK_cons, ih, List.append_assoc]
theorem filtK_snoc {a : List (E × St)} {k : E × St} {x : Mt} : filtK (a ++ [k]) x = filtK a x ++ filt1 x k := by
 rw [filtK_append, filtK_cons, filtK, List.append_nil]
theorem filtK_length {ks : List (E × St)} {x : Mt} : (filtK ks x).length ≤ ks.length := by
 induction ks with
 | nil => rw [filtK]; exact Nat.le_refl _
 | cons k ks ih =>
  rw [filtK_cons, List.length_append, List.length_cons]
  have : (filt1 x k).length ≤ 1 := by
   unfold filt1
   split
   ·split <;> simp
   ·simp
  omega
theorem filtS_mk {m : List E} {ks : List (E × St)} {x : Mt} (h : x.all = false) : filtS (.mk m ks) x = .mk (m.filter fun e => (hitM e x.ms).isSome) (filtK ks x) := by
 rw [filtS, if_neg (by rw [h]; decide)]
theorem filtS_all {s : St} {x : Mt} (h : x.all = true) : filtS s x = s := by
 cases s with
 | mk m ks => rw [filtS, if_pos h]

def Mt.lets : Mt → List E → Bool
 | x, [] => x.all
 | x, e :: p => x.all || match hitM e x.ms with
  | some c => p.isEmpty || c.2.lets p
  | none => false
termination_by _ p => p.length
theorem lets_cons {x : Mt} {e : E} {p : List E} : x.lets (e :: p) = (x.all || match hitM e x.ms with
  | some c => p.isEmpty || c.2.lets p
  | none => false) := by rw [Mt.lets]
theorem lets_all {x : Mt} (h : x.all = true) (p : List E) : x.lets p = true := by
 cases p with
 | nil => rw [Mt.lets, h]
 | cons e p => rw [lets_cons, h, Bool.true_or]
theorem paths_ne : ∀ (s : St), ∀ p ∈ s.paths, p ≠ []
 | s, p, hp => by
  rcases paths_mem.1 hp with ⟨e, he, rfl⟩ | ⟨k, hk, q, hq, rfl⟩ <;> simp
mutual
theorem filtS_paths : ∀ (s : St) (x : Mt), (filtS s x).paths = s.paths.filter x.lets
 | .mk m ks, x => by
  by_cases h : x.all = true
  ·rw [filtS_all h, List.filter_eq_self.2 fun p _ => lets_all h p]
  ·have h : x.all = false := by simpa using h
   rw [filtS_mk h, St.paths, St.paths, List.filter_append, filtK_paths ks x h, List.filter_map]
   congr 2
   refine List.filter_congr fun e _ => ?_
   show _ = x.lets [e]
   rw [lets_cons, h, Bool.false_or]
   cases hitM e x.ms <;> rfl
theorem filtK_paths : ∀ (ks : List (E × St)) (x : Mt), x.all = false → St.pathsK (filtK ks x) = (St.pathsK ks).filter x.lets
 | [], x, _ => by rw [filtK, St.pathsK]; rfl
 | (e, s) :: r, x, h => by
  have ih := filtK_paths r x h
  have ih1 := fun c => filtS_paths s c
  rw [filtK, St.pathsK, List.filter_append, ← ih]
  have hf : ∀ c, hitM e x.ms = c → (s.paths.map (e :: ·)).filter x.lets = match c with | some c => (filtS s c.2).paths.map (e :: ·) | none => [] := fun c hc => by
   rw [List.filter_map]
   cases c with
   | none =>
    rw [List.filter_eq_nil_iff.2 fun q hq => by
     show ¬ x.lets (e :: q) = true
     rw [lets_cons, h, hc]
     simp]
    rfl
   | some c =>
    simp only
    rw [ih1 c.2]
    congr 1
    refine List.filter_congr fun q hq => ?_
    have hq0 := paths_ne s q hq
    show x.lets (e :: q) = _
    rw [lets_cons, h, hc, Bool.false_or]
    cases q with
    | nil => exact absurd rfl hq0
    | cons a q => simp
  rw [hf _ rfl]
  cases hc : hitM e x.ms with
  | none => simp
  | some c =>
   simp only
   split
   ·rw [List.singleton_append, St.pathsK]
   ·rename_i h0
    rw [List.eq_nil_of_length_eq_zero (show (filtS s c.2).paths.length = 0 by omega)]
    simp
end
theorem filtS_count (s : St) (x : Mt) : (filtS s x).paths.length ≤ s.paths.length := by
 rw [filtS_paths]
 exact List.length_filter_le _ _
def wildM : Nat → Mt
 | 0 => .mk true []
 | n + 1 => .mk false [(none, wildM n)]
theorem wildM_lets : ∀ (n : Nat) (p : List E), p ≠ [] → (wildM n).lets p = true
 | 0, p, _ => lets_all rfl p
 | n + 1, [], h => absurd rfl h
 | n + 1, e :: p, _ => by
  rw [lets_cons]
  have : hitM e (wildM (n + 1)).ms = some (none, wildM n) := by simp [wildM, Mt.ms, hitM, okM]
  rw [this]
  cases p with
  | nil => simp
  | cons a p => simp [wildM_lets n (a :: p) (by simp)]
theorem wild_paths (n : Nat) (s : St) : (filtS s (wildM n)).paths = s.paths := by
 rw [filtS_paths]
 exact List.filter_eq_self.2 fun p hp => wildM_lets n p (paths_ne s p hp)
def chainM : List (Option E) → Mt
 | [] => .mk true []
 | e :: p => .mk false [(e, chainM p)]
theorem wildM_chain (n : Nat) : wildM n = chainM (List.replicate n none) := by
 induction n with
 | zero => rfl
 | succ n ih => rw [List.replicate_succ, wildM, chainM, ih]
end Go.Proofs.YtbicoknghdgahaaGreat

namespace Go.Proofs.YtbicoknghdgahaaGreat
open Go.RowKit
attribute [local go_sem] run_store_float

set_option maxRecDepth 100000 in
theorem peEquals_01 (g1 g2 : Nat) (w : World) : Calls Tryz.prog 101 #[.agg #[.pointer (some ⟨g1, 0, none⟩), .pointer none, .pointer none, .pointer none], .agg #[.pointer none, .pointer (some ⟨g2, 0, none⟩), .pointer none, .pointer none]] w (EqPost false w) := by
 go_enter Tryz.func101, Tryz.ntmps101
 go_wp2
 go_ret
 exact ⟨rfl, below_two _ _ _⟩
set_option maxRecDepth 100000 in
theorem peEquals_02 (g1 g2 : Nat) (w : World) : Calls Tryz.prog 101 #[.agg #[.pointer (some ⟨g1, 0, none⟩), .pointer none, .pointer none, .pointer none], .agg #[.pointer none, .pointer none, .pointer (some ⟨g2, 0, none⟩), .pointer none]] w (EqPost false w) := by
 go_enter Tryz.func101, Tryz.ntmps101
 go_wp2
 go_ret
 exact ⟨rfl, below_two _ _ _⟩
set_option maxRecDepth 100000 in
theorem peEquals_03 (g1 g2 : Nat) (w : World) : Calls Tryz.prog 101 #[.agg #[.pointer (some ⟨g1, 0, none⟩), .pointer none, .pointer none, .pointer none], .agg #[.pointer none, .pointer none, .pointer none, .pointer (some ⟨g2, 0, none⟩)]] w (EqPost false w) := by
 go_enter Tryz.func101, Tryz.ntmps101
 go_wp2
 go_ret
 exact ⟨rfl, below_two _ _ _⟩
set_option maxRecDepth 100000 in
theorem peEquals_10 (g1 g2 : Nat) (w : World) : Calls Tryz.prog 101 #[.agg #[.pointer none, .pointer (some ⟨g1, 0, none⟩), .pointer none, .pointer none], .agg #[.pointer (some ⟨g2, 0, none⟩), .pointer none, .pointer none, .pointer none]] w (EqPost false w) := by
 go_enter Tryz.func101, Tryz.ntmps101
 go_wp2
 go_ret
 exact ⟨rfl, below_two _ _ _⟩
set_option maxRecDepth 100000 in
theorem peEquals_12 (g1 g2 : Nat) (w : World) : Calls Tryz.prog 101 #[.agg #[.pointer none, .pointer (some ⟨g1, 0, none⟩), .pointer none, .pointer none], .agg #[.pointer none, .pointer none, .pointer (some ⟨g2, 0, none⟩), .pointer none]] w (EqPost false w) := by
 go_enter Tryz.func101, Tryz.ntmps101
 go_wp2
 go_ret
 exact ⟨rfl, below_two _ _ _⟩
set_option maxRecDepth 100000 in
theorem peEquals_13 (g1 g2 : Nat) (w : World) : Calls Tryz.prog 101 #[.agg #[.pointer none, .pointer (some ⟨g1, 0, none⟩), .pointer none, .pointer none], .agg #[.pointer none, .pointer none, .pointer none, .pointer (some ⟨g2, 0, none⟩)]] w (EqPost false w) := by
 go_enter Tryz.func101, Tryz.ntmps101
 go_wp2
 go_ret
 exact ⟨rfl, below_two _ _ _⟩
set_option maxRecDepth 100000 in
theorem peEquals_20 (g1 g2 : Nat) (w : World) : Calls Tryz.prog 101 #[.agg #[.pointer none, .pointer none, .pointer (some ⟨g1, 0, none⟩), .pointer none], .agg #[.pointer (some ⟨g2, 0, none⟩), .pointer none, .pointer none, .pointer none]] w (EqPost false w) := by
 go_enter Tryz.func101, Tryz.ntmps101
 go_wp2
 go_ret
 exact ⟨rfl, below_two _ _ _⟩
set_option maxRecDepth 100000 in
theorem peEquals_21 (g1 g2 : Nat) (w : World) : Calls Tryz.prog 101 #[.agg #[.pointer none, .pointer none, .pointer (some ⟨g1, 0, none⟩), .pointer none], .agg #[.pointer none, .pointer (some ⟨g2, 0, none⟩), .pointer none, .pointer none]] w (EqPost false w) := by
 go_enter Tryz.func101, Tryz.ntmps101
 go_wp2
 go_ret
 exact ⟨rfl, below_two _ _ _⟩
set_option maxRecDepth 100000 in
theorem peEquals_23 (g1 g2 : Nat) (w : World) : Calls Tryz.prog 101 #[.agg #[.pointer none, .pointer none, .pointer (some ⟨g1, 0, none⟩), .pointer none], .agg #[.pointer none, .pointer none, .pointer none, .pointer (some ⟨g2, 0, none⟩)]] w (EqPost false w) := by
 go_enter Tryz.func101, Tryz.ntmps101
 go_wp2
 go_ret
 exact ⟨rfl, below_two _ _ _⟩
set_option maxRecDepth 100000 in
theorem peEquals_30 (g1 g2 : Nat) (w : World) : Calls Tryz.prog 101 #[.agg #[.pointer none, .pointer none, .pointer none, .pointer (some ⟨g1, 0, none⟩)], .agg #[.pointer (some ⟨g2, 0, none⟩), .pointer none, .pointer none, .pointer none]] w (EqPost false w) := by
 go_enter Tryz.func101, Tryz.ntmps101
 go_wp2
 go_ret
 exact ⟨rfl, below_two _ _ _⟩
set_option maxRecDepth 100000 in
theorem peEquals_31 (g1 g2 : Nat) (w : World) : Calls Tryz.prog 101 #[.agg #[.pointer none, .pointer none, .pointer none, .pointer (some ⟨g1, 0, none⟩)], .agg #[.pointer none, .pointer (some ⟨g2, 0, none⟩), .pointer none, .pointer none]] w (EqPost false w) := by
 go_enter Tryz.func101, Tryz.ntmps101
 go_wp2
 go_ret
 exact ⟨rfl, below_two _ _ _⟩
set_option maxRecDepth 100000 in
theorem peEquals_32 (g1 g2 : Nat) (w : World) : Calls Tryz.prog 101 #[.agg #[.pointer none, .pointer none, .pointer none, .pointer (some ⟨g1, 0, none⟩)], .agg #[.pointer none, .pointer none, .pointer (some ⟨g2, 0, none⟩), .pointer none]] w (EqPost false w) := by
 go_enter Tryz.func101, Tryz.ntmps101
 go_wp2
 go_ret
 exact ⟨rfl, below_two _ _ _⟩
set_option maxRecDepth 100000 in
set_option maxHeartbeats 1000000 in
theorem peEquals_00 (s1 s2 : ByteArray) (g1 g2 : Nat) (w : World) (l1 : g1 < w.heap.size) (l2 : g2 < w.heap.size) (b1 : Bk w g1 9 #[.string s1]) (b2 : Bk w g2 9 #[.string s2]) :
  Calls Tryz.prog 101 #[.agg #[.pointer (some ⟨g1, 0, none⟩), .pointer none, .pointer none, .pointer none], .agg #[.pointer (some ⟨g2, 0, none⟩), .pointer none, .pointer none, .pointer none]] w (EqPost (decide (s1 = s2)) w) := by
 by_cases he : s1 = s2
 ·subst he
  have hst : (s1.toList == s1.toList) = true := by simp
  rw [decide_eq_true rfl]
  go_enter Tryz.func101, Tryz.ntmps101
  go_wp2_with fail
  have st := PE2.made w (.pointer (some ⟨g1, 0, none⟩)) (.pointer none) (.pointer none) (.pointer none) (.pointer (some ⟨g2, 0, none⟩)) (.pointer none) (.pointer none) (.pointer none)
  have u0 := b1.cell 0
  have v0 := b2.cell 0
  simp at u0 v0
  rw [← (bcell st.below).1 _ _ l1] at u0
  rw [← (bcell st.below).1 _ _ l2] at v0
  generalize World.alloc (World.alloc w _) _ = W at st u0 v0 ⊢
  obtain ⟨p0, p1, p2, p3, q0, q1, q2, q3⟩ := st.cells
  have St := hide st.below
  clear b1 b2 st
  go_wp2_with fail
  go_quiet (fail)
  go_wp2
  go_ret
  exact ⟨rfl, below_drewN St.out _⟩
 ·have hst : (s1.toList == s2.toList) = false := by rw [str_eq]; simpa using he
  rw [decide_eq_false he]
  clear he
  go_enter Tryz.func101, Tryz.ntmps101
  go_wp2_with fail
  have st := PE2.made w (.pointer (some ⟨g1, 0, none⟩)) (.pointer none) (.pointer none) (.pointer none) (.pointer (some ⟨g2, 0, none⟩)) (.pointer none) (.pointer none) (.pointer none)
  have u0 := b1.cell 0
  have v0 := b2.cell 0
  simp at u0 v0
  rw [← (bcell st.below).1 _ _ l1] at u0
  rw [← (bcell st.below).1 _ _ l2] at v0
  generalize World.alloc (World.alloc w _) _ = W at st u0 v0 ⊢
  obtain ⟨p0, p1, p2, p3, q0, q1, q2, q3⟩ := st.cells
  have St := hide st.below
  clear b1 b2 st
  go_wp2_with fail
  go_quiet (fail)
  go_wp2
  go_ret
  exact ⟨rfl, below_drewN St.out _⟩
set_option maxRecDepth 100000 in
set_option maxHeartbeats 1000000 in
theorem peEquals_11 (L1 L2 : List (ByteArray × T)) (A1 A2 : Option Addr) (c1 c2 : Nat) (g1 g2 : Nat) (w : World) (h1 : FLAt (Old w) w L1 A1 c1) (h2 : FLAt (Old w) w L2 A2 c2) (l1 : g1 < w.heap.size) (l2 : g2 < w.heap.size) (b1 : Bk w g1 198 #[.slice A1 L1.length c1]) (b2 : Bk w g2 198 #[.slice A2 L2.length c2]) :
  Calls Tryz.prog 101 #[.agg #[.pointer none, .pointer (some ⟨g1, 0, none⟩), .pointer none, .pointer none], .agg #[.pointer none, .pointer (some ⟨g2, 0, none⟩), .pointer none, .pointer none]] w (EqPost (T.eqvM L1 L2) w) := by
 have hq := fun (W : World) (hb : Below w.heap.size w W) => flEquals_calls (h1.at_ hb) (h2.at_ hb)
 obtain ⟨d, hd⟩ : ∃ d, T.eqvM L1 L2 = d := ⟨_, rfl⟩
 rw [hd] at hq ⊢
 have Hq := hide hq
 clear hq hd h1 h2
 go_enter Tryz.func101, Tryz.ntmps101
 go_wp2_with fail
 have st := PE2.made w (.pointer none) (.pointer (some ⟨g1, 0, none⟩)) (.pointer none) (.pointer none) (.pointer none) (.pointer (some ⟨g2, 0, none⟩)) (.pointer none) (.pointer none)
 have u0 := b1.cell 0
 have v0 := b2.cell 0
 simp at u0 v0
 rw [← (bcell st.below).1 _ _ l1] at u0
 rw [← (bcell st.below).1 _ _ l2] at v0
 have hzs := st.below.size
 generalize World.alloc (World.alloc w _) _ = W at st u0 v0 hzs ⊢
 have hzz : PES w (.pointer none) (.pointer (some ⟨g1, 0, none⟩)) (.pointer none) (.pointer none) (.pointer none) (.pointer (some ⟨g2, 0, none⟩)) (.pointer none) (.pointer none) g1 g2 (.slice A1 L1.length c1) (.slice A2 L2.length c2) W := ⟨st, u0, v0⟩
 obtain ⟨p0, p1, p2, p3, q0, q1, q2, q3⟩ := st.cells
 have Hz := hide hzz
 clear b1 b2 st u0 v0 hzz
 go_wp2_with fail
 clear p0 p1 p2 p3 q0 q1 q2 q3
 have hS0 := Hz.out.call (below_drew (Below.refl W.heap.size W)) (by omega) (by omega)
 obtain ⟨S, hS⟩ : ∃ S, PES w (.pointer none) (.pointer (some ⟨g1, 0, none⟩)) (.pointer none) (.pointer none) (.pointer none) (.pointer (some ⟨g2, 0, none⟩)) (.pointer none) (.pointer none) g1 g2 (.slice A1 L1.length c1) (.slice A2 L2.length c2) = S := ⟨_, rfl⟩
 rw [hS] at hS0
 refine wp_region_head 9 S (by rfl) (by kernel_rfl) ?_
 iterate 8
  refine HT.nx (v := ?_) rfl (by kernel_rfl) (fun _ _ _ h => h) (Or.inl ⟨by rfl, ?_⟩) ‹_› ?_
  rotate_left
  ·intro W hSw; rw [← hS] at hSw; obtain ⟨hst, s8, s9⟩ := hSw; obtain ⟨s0, s1, s2, s3, s4, s5, s6, s7⟩ := hst.cells; clear hst; go_simp; with_reducible rfl
  simp only [Act.put, zzA, zzZ, zzS]
 refine HT.one 8 rfl (by kernel_rfl) (by rfl) (fun K hK => ?_)
 go_simp
 refine (Hq.out W.drew (below_drew Hz.out.st.below)).mono ?_
 rintro e w9 ⟨rfl, hb9⟩
 have hb9' : Below W.heap.size W w9 := below_drew' hb9
 go_simp
 refine hK.out _ _ (by rw [← hS]; exact Hz.out.call hb9' (by omega) (by omega)) ?_
 clear hK
 refine HT.done (by kernel_rfl) ?_
 simp only [List.drop_succ_cons, List.drop_zero]
 have Hb := hide (Hz.out.st.below.trans (hb9'.mono Hz.out.st.below.size))
 clear hS0 hS hb9 hb9'
 go_wp2
 go_ret
 exact ⟨rfl, Hb.out⟩
set_option maxRecDepth 100000 in
set_option maxHeartbeats 1000000 in
theorem peEquals_22 (t1 t2 : T) (q1 q2 : Addr) (g1 g2 : Nat) (w : World) (h1 : ValAt (Old w) w t1 (.iface 302 (.pointer (some q1)))) (h2 : ValAt (Old w) w t2 (.iface 302 (.pointer (some q2)))) (l1 : g1 < w.heap.size) (l2 : g2 < w.heap.size) (b1 : Bk w g1 112 #[.iface 302 (.pointer (some q1))]) (b2 : Bk w g2 112 #[.iface 302 (.pointer (some q2))]) :
  Calls Tryz.prog 101 #[.agg #[.pointer none, .pointer none, .pointer (some ⟨g1, 0, none⟩), .pointer none], .agg #[.pointer none, .pointer none, .pointer (some ⟨g2, 0, none⟩), .pointer none]] w (EqPost (T.eqv t1 t2) w) := by
 have hq := fun (W : World) (hb : Below w.heap.size w W) => equalsV_calls (h1.at_ hb) (h2.at_ hb)
 obtain ⟨d, hd⟩ : ∃ d, T.eqv t1 t2 = d := ⟨_, rfl⟩
 rw [hd] at hq ⊢
 have Hq := hide hq
 clear hq hd h1 h2
 go_enter Tryz.func101, Tryz.ntmps101
 go_wp2_with fail
 have st := PE2.made w (.pointer none) (.pointer none) (.pointer (some ⟨g1, 0, none⟩)) (.pointer none) (.pointer none) (.pointer none) (.pointer (some ⟨g2, 0, none⟩)) (.pointer none)
 have u0 := b1.cell 0
 have v0 := b2.cell 0
 simp at u0 v0
 rw [← (bcell st.below).1 _ _ l1] at u0
 rw [← (bcell st.below).1 _ _ l2] at v0
 have hzs := st.below.size
 generalize World.alloc (World.alloc w _) _ = W at st u0 v0 hzs ⊢
 have hzz : PES w (.pointer none) (.pointer none) (.pointer (some ⟨g1, 0, none⟩)) (.pointer none) (.pointer none) (.pointer none) (.pointer (some ⟨g2, 0, none⟩)) (.pointer none) g1 g2 (.iface 302 (.pointer (some q1))) (.iface 302 (.pointer (some q2))) W := ⟨st, u0, v0⟩
 obtain ⟨p0, p1, p2, p3, q0, q1, q2, q3⟩ := st.cells
 have Hz := hide hzz
 clear b1 b2 st u0 v0 hzz
 go_wp2_with fail
 clear p0 p1 p2 p3 q0 q1 q2 q3
 have hS0 := Hz.out.call (below_drew (Below.refl W.heap.size W)) (by omega) (by omega)
 obtain ⟨S, hS⟩ : ∃ S, PES w (.pointer none) (.pointer none) (.pointer (some ⟨g1, 0, none⟩)) (.pointer none) (.pointer none) (.pointer none) (.pointer (some ⟨g2, 0, none⟩)) (.pointer none) g1 g2 (.iface 302 (.pointer (some q1))) (.iface 302 (.pointer (some q2))) = S := ⟨_, rfl⟩
 rw [hS] at hS0
 refine wp_region_head 9 S (by rfl) (by kernel_rfl) ?_
 iterate 8
  refine HT.nx (v := ?_) rfl (by kernel_rfl) (fun _ _ _ h => h) (Or.inl ⟨by rfl, ?_⟩) ‹_› ?_
  rotate_left
  ·intro W hSw; rw [← hS] at hSw; obtain ⟨hst, s8, s9⟩ := hSw; obtain ⟨s0, s1, s2, s3, s4, s5, s6, s7⟩ := hst.cells; clear hst; go_simp; with_reducible rfl
  simp only [Act.put, zzA, zzZ, zzS]
 refine HT.one 8 rfl (by kernel_rfl) (by rfl) (fun K hK => ?_)
 go_simp
 refine (Hq.out W.drew (below_drew Hz.out.st.below)).mono ?_
 rintro e w9 ⟨rfl, hb9⟩
 have hb9' : Below W.heap.size W w9 := below_drew' hb9
 go_simp
 refine hK.out _ _ (by rw [← hS]; exact Hz.out.call hb9' (by omega) (by omega)) ?_
 clear hK
 refine HT.done (by kernel_rfl) ?_
 simp only [List.drop_succ_cons, List.drop_zero]
 have Hb := hide (Hz.out.st.below.trans (hb9'.mono Hz.out.st.below.size))
 clear hS0 hS hb9 hb9'
 go_wp2
 go_ret
 exact ⟨rfl, Hb.out⟩
set_option maxRecDepth 100000 in
set_option maxHeartbeats 1000000 in
theorem peEquals_33 (n1 n2 : Int) (g1 g2 : Nat) (w : World) (o1 : okInt n1) (o2 : okInt n2) (l1 : g1 < w.heap.size) (l2 : g2 < w.heap.size) (b1 : Bk w g1 3 #[.int .i64 n1]) (b2 : Bk w g2 3 #[.int .i64 n2]) :
  Calls Tryz.prog 101 #[.agg #[.pointer none, .pointer none, .pointer none, .pointer (some ⟨g1, 0, none⟩)], .agg #[.pointer none, .pointer none, .pointer none, .pointer (some ⟨g2, 0, none⟩)]] w (EqPost (n1 == n2) w) := by
 have x1 := o1.1
 have x2 := o1.2
 have x3 := o2.1
 have x4 := o2.2
 clear o1 o2
 by_cases he : n1 = n2
 ·subst he
  rw [show (n1 == n1) = true by simp]
  go_enter Tryz.func101, Tryz.ntmps101
  go_wp2_with fail
  have st := PE2.made w (.pointer none) (.pointer none) (.pointer none) (.pointer (some ⟨g1, 0, none⟩)) (.pointer none) (.pointer none) (.pointer none) (.pointer (some ⟨g2, 0, none⟩))
  have u0 := b1.cell 0
  have v0 := b2.cell 0
  simp at u0 v0
  rw [← (bcell st.below).1 _ _ l1] at u0
  rw [← (bcell st.below).1 _ _ l2] at v0
  generalize World.alloc (World.alloc w _) _ = W at st u0 v0 ⊢
  obtain ⟨p0, p1, p2, p3, q0, q1, q2, q3⟩ := st.cells
  have St := hide st.below
  clear b1 b2 st
  go_wp2_with fail
  go_quiet (fail)
  go_wp2
  go_ret
  exact ⟨rfl, below_drewN St.out _⟩
 ·have he' : (n1 == n2) = false := by simpa using he
  rw [he']
  go_enter Tryz.func101, Tryz.ntmps101
  go_wp2_with fail
  have st := PE2.made w (.pointer none) (.pointer none) (.pointer none) (.pointer (some ⟨g1, 0, none⟩)) (.pointer none) (.pointer none) (.pointer none) (.pointer (some ⟨g2, 0, none⟩))
  have u0 := b1.cell 0
  have v0 := b2.cell 0
  simp at u0 v0
  rw [← (bcell st.below).1 _ _ l1] at u0
  rw [← (bcell st.below).1 _ _ l2] at v0
  generalize World.alloc (World.alloc w _) _ = W at st u0 v0 ⊢
  obtain ⟨p0, p1, p2, p3, q0, q1, q2, q3⟩ := st.cells
  have St := hide st.below
  clear b1 b2 st
  go_wp2_with fail
  go_quiet (fail)
  go_wp2
  go_ret
  exact ⟨rfl, below_drewN St.out _⟩

theorem peEquals_calls {e1 e2 : E} {cs1 cs2 : List Value} {w : World} (h1 : PEAt (Old w) w e1 cs1) (h2 : PEAt (Old w) w e2 cs2) : Calls Tryz.prog 101 #[.agg cs1.toArray, .agg cs2.toArray] w (EqPost (E.eqv e1 e2) w) := by
 cases h1
 case field =>
  rename_i s1 g1 xs xF xB
  cases h2
  case field =>
   rename_i s2 g2 ys yF yB
   exact peEquals_00 _ _ _ _ w xF yF xB yB
  case key => exact peEquals_01 _ _ w
  case val => exact peEquals_02 _ _ w
  case idx => exact peEquals_03 _ _ w
 case key =>
  rename_i L1 g1 A1 c1 xF xB xL
  cases h2
  case field => exact peEquals_10 _ _ w
  case key =>
   rename_i L2 g2 A2 c2 yF yB yL
   exact peEquals_11 _ _ _ _ _ _ _ _ w xL yL xF yF xB yB
  case val => exact peEquals_12 _ _ w
  case idx => exact peEquals_13 _ _ w
 case val =>
  rename_i t1 g1 q1 xF xB xV
  cases h2
  case field => exact peEquals_20 _ _ w
  case key => exact peEquals_21 _ _ w
  case val =>
   rename_i t2 g2 q2 yF yB yV
   exact peEquals_22 _ _ _ _ _ _ w xV yV xF yF xB yB
  case idx => exact peEquals_23 _ _ w
 case idx =>
  rename_i n1 g1 xo xF xB
  cases h2
  case field => exact peEquals_30 _ _ w
  case key => exact peEquals_31 _ _ w
  case val => exact peEquals_32 _ _ w
  case idx =>
   rename_i n2 g2 yo yF yB
   exact peEquals_33 _ _ _ _ w xo yo xF yF xB yB

end Go.Proofs.YtbicoknghdgahaaGreat

namespace Go.Proofs.YtbicoknghdgahaaGreat
open Go.RowKit
attribute [local go_sem] run_store_float

structure ESet (F : Nat → Prop) (w : World) (g : Nat) (l : List E) (s : Value) (xs : List Value) : Prop where
 bk : Bk w g 124 #[s]
 own : w.ownsRow 0 109 4 s l.length xs
 at_ : Cells 4 (PEAt F w) l xs
 sep : s.ownBlock ≠ some g

def EInsPost (F : Nat → Prop) (w : World) (g : Nat) (l' : List E) (s : Value) (en : Ending) (w' : World) : Prop :=
 en = .returned (.tuple #[]) ∧ ∃ s' xs', ESet F w' g l' s' xs' ∧ (s'.ownBlock = s.ownBlock ∨ ∃ b, s'.ownBlock = some b ∧ w.heap.size ≤ b) ∧ Grown2 w w' g s.ownBlock

theorem esInsert_calls {F : Nat → Prop} {w : World} {g : Nat} {l : List E} {s : Value} {xs : List Value} {e : E} {p0 p1 p2 p3 : Option Addr} (hs : ESet F w g l s xs) (hF : ∀ b, F b → b < w.heap.size ∧ b ≠ g ∧ s.ownBlock ≠ some b)
  (hpe : PEAt F w e [.pointer p0, .pointer p1, .pointer p2, .pointer p3]) (hok : POk l) (he : e.Ok) (hso : SortC E.cmp l) (hn : (l.length + 1) * 32 ≤ R47) :
  Calls Tryz.prog 126 #[.pointer (some ⟨g, 0, none⟩), .agg #[.pointer p0, .pointer p1, .pointer p2, .pointer p3]] w (EInsPost F w g (insC E.cmp e l) s) :=
 (esInsertC_calls (t := 124) (cs := #[s]) (o := 0) ⟨hs.bk, rfl, hs.own, hs.at_, hs.sep⟩ hF hpe hok he hso hn).mono fun en w' ⟨h1, s', xs', h2, h3, h4⟩ => ⟨h1, s', xs', ⟨by simpa using h2.bk, h2.own, h2.at_, h2.sep⟩, h3, h4⟩

end Go.Proofs.YtbicoknghdgahaaGreat

namespace Go.Proofs.YtbicoknghdgahaaGreat
open Go.RowKit
attribute [local go_sem] run_store_float

theorem ESet.mono {F G : Nat → Prop} {w : World} {g : Nat} {l : List E} {s : Value} {xs : List Value} (h : ESet F w g l s xs) (k : ∀ b, F b → G b) : ESet G w g l s xs := ⟨h.bk, h.own, h.at_.mono fun _ _ h => h.mono k, h.sep⟩
theorem ESet.below {F : Nat → Prop} {w w' : World} {g : Nat} {l : List E} {s : Value} {xs : List Value} (h : ESet F w g l s xs) (hF : ∀ b, F b → b < w.heap.size) (hb : Below w.heap.size w w') : ESet F w' g l s xs :=
 ⟨h.bk.below hb h.bk.lt, ownsRow_below h.own hb (Nat.le_refl _), h.at_.mono fun _ _ h => h.keeps (Keeps.below hb hF), h.sep⟩

theorem esSizeC_calls {w : World} {g o n c : Nat} {A : Option Addr} (m0 : w.cell? ⟨g, o, none⟩ = some (.slice A n c)) : Calls Tryz.prog 140 #[.pointer (some ⟨g, o, none⟩)] w (fun en w' => en = .returned (.int .i64 (n : Int)) ∧ w' = w) := by
 go_enter Tryz.func140, Tryz.ntmps140
 go_wp2
 go_ret
 exact ⟨rfl, rfl⟩
end Go.Proofs.YtbicoknghdgahaaGreat

namespace Go.Proofs.YtbicoknghdgahaaGreat
open Go.RowKit
attribute [local go_sem] run_store_float

theorem KQ.mk_ {F : Nat → Prop} {w : World} {k : E × St} {a b c d : Option Addr} {g : Nat} (h1 : PEAt F w k.1 [.pointer a, .pointer b, .pointer c, .pointer d]) (h2 : SetR F w g k.2) : KQ F w k [.pointer a, .pointer b, .pointer c, .pointer d, .pointer (some ⟨g, 0, none⟩)] :=
 ⟨g, ⟨_, _, _, _, rfl, h1⟩, h2⟩
theorem SetR.of_parts {F : Nat → Prop} {w : World} {g : Nat} {m : List E} {ks : List (E × St)} {MA KA : Option Addr} {mc kc : Nat} {xs ys : List Value}
  (h1 : F g) (h2 : Bk w g 130 #[.slice MA m.length mc, .slice KA ks.length kc]) (h3 : m.length * 32 ≤ R47) (h4 : ks.length * 40 ≤ R47) (h5 : m.length ≤ mc) (h6 : mc ≤ maxLen) (h7 : ks.length ≤ kc) (h8 : kc ≤ maxLen)
  (h9 : Row F w 4 MA m.length xs) (h10 : Row F w 5 KA ks.length ys) (h11 : Cells 4 (PEAt F w) m xs) (h12 : Cells 5 (KQ F w) ks ys) : SetR F w g (.mk m ks) := by
 have hall : ∀ i, i < ks.length → ∃ G, ∀ k, ks[i]? = some k → KidAt F w k.1 G ((ys.drop (i * 5)).take 5) ∧ SetR F w G k.2 := fun i hi => by
  obtain ⟨G, hG⟩ := h12.2 i ks[i] (List.getElem?_eq_getElem hi)
  exact ⟨G, fun k hk => by rw [List.getElem?_eq_getElem hi] at hk; cases hk; exact hG⟩
 obtain ⟨G, hG⟩ := Deep.choose_lt hall
 exact .mk (G := G) h1 h2 h3 h4 h5 h6 h7 h8 h9 h10 h11 (fun i k hk => (hG i (List.getElem?_eq_some_iff.1 hk).1 k hk).1) fun i k hk => (hG i (List.getElem?_eq_some_iff.1 hk).1 k hk).2

theorem node_info : (Tryz.prog.info? 214).map (fun i => (i.zero, i.size, i.bytes)) = some (some (.agg #[.pointer none, .pointer none, .pointer none, .pointer none, .pointer none]), 5, 40) := by kernel_rfl

def GivesF (F : Nat → Prop) (t : St) (w : World) (en : Ending) (w' : World) : Prop := ∃ g, en = .returned (.pointer (some ⟨g, 0, none⟩)) ∧ SetR (fun b => F b ∨ Fr w.heap.size w' b) w' g t ∧ Below w.heap.size w w'

end Go.Proofs.YtbicoknghdgahaaGreat

namespace Go.Proofs.YtbicoknghdgahaaGreat
open Go.RowKit

def MemAt (F : Nat → Prop) (w : World) (b h : Nat) (o : Option E) : Prop := F b ∧ ∃ p0 p1 p2 p3 : Option Addr, Bk w b 285 #[.bool o.isNone, .pointer p0, .pointer p1, .pointer p2, .pointer p3, .pointer (some ⟨h, 0, none⟩)] ∧ ∀ e, o = some e → PEAt F w e [.pointer p0, .pointer p1, .pointer p2, .pointer p3]
inductive MatR (F : Nat → Prop) (w : World) : Nat → Mt → Prop
 | mk {g : Nat} {all : Bool} {ms : List (Option E × Mt)} {A : Option Addr} {c : Nat} {xs : List Value} {G H : Nat → Nat} : F g → Bk w g 280 #[.bool all, .slice A ms.length c] → ms.length * 8 ≤ R47 → ms.length ≤ c → c ≤ maxLen → Row F w 1 A ms.length xs →
  (∀ (i : Nat) k, ms[i]? = some k → (xs.drop (i * 1)).take 1 = [.pointer (some ⟨G i, 0, none⟩)] ∧ MemAt F w (G i) (H i) k.1) → (∀ (i : Nat) k, ms[i]? = some k → MatR F w (H i) k.2) → MatR F w g (.mk all ms)
section
variable {F G : Nat → Prop} {w w' : World} {g : Nat} {x : Mt}
theorem MemAt.keeps {b h : Nat} {o : Option E} (q : MemAt F w b h o) (k : Keeps F w w') : MemAt F w' b h o := by
 obtain ⟨h1, p0, p1, p2, p3, h2, h3⟩ := q
 exact ⟨h1, p0, p1, p2, p3, (k _ h1).trans h2, fun e he => (h3 e he).keeps k⟩
theorem MemAt.mono {b h : Nat} {o : Option E} (q : MemAt F w b h o) (k : ∀ b, F b → G b) : MemAt G w b h o := by
 obtain ⟨h1, p0, p1, p2, p3, h2, h3⟩ := q
 exact ⟨k _ h1, p0, p1, p2, p3, h2, fun e he => (h3 e he).mono k⟩
theorem MatR.keeps (h : MatR F w g x) (k : Keeps F w w') : MatR F w' g x := by
 induction h with
 | mk h1 h2 h3 h4 h5 h6 h7 h8 ih => exact .mk h1 ((k _ h1).trans h2) h3 h4 h5 (h6.keeps k) (fun i y hy => ⟨(h7 i y hy).1, (h7 i y hy).2.keeps k⟩) ih
theorem MatR.mono (h : MatR F w g x) (k : ∀ b, F b → G b) : MatR G w g x := by
 induction h with
 | mk h1 h2 h3 h4 h5 h6 h7 h8 ih => exact .mk (k _ h1) h2 h3 h4 h5 (h6.mono k) (fun i y hy => ⟨(h7 i y hy).1, (h7 i y hy).2.mono k⟩) ih
theorem MatR.at_ (h : MatR (Old w) w g x) (hb : Below w.heap.size w w') : MatR (Old w') w' g x := (h.keeps (Keeps.below hb fun _ h => h)).mono fun _ h => Nat.lt_of_lt_of_le h hb.size
end
def MQ (F : Nat → Prop) (w : World) (k : Option E × Mt) (cs : List Value) : Prop := ∃ b h, cs = [.pointer (some ⟨b, 0, none⟩)] ∧ MemAt F w b h k.1 ∧ MatR F w h k.2
theorem MQ.keeps {F : Nat → Prop} {w w' : World} {k : Option E × Mt} {cs : List Value} (h : MQ F w k cs) (hk : Keeps F w w') : MQ F w' k cs := by
 obtain ⟨b, g, e, h1, h2⟩ := h
 exact ⟨b, g, e, h1.keeps hk, h2.keeps hk⟩
theorem MQ.mono {F G : Nat → Prop} {w : World} {k : Option E × Mt} {cs : List Value} (h : MQ F w k cs) (hk : ∀ b, F b → G b) : MQ G w k cs := by
 obtain ⟨b, g, e, h1, h2⟩ := h
 exact ⟨b, g, e, h1.mono hk, h2.mono hk⟩
theorem MatR.parts {F : Nat → Prop} {w : World} {g : Nat} {x : Mt} (h : MatR F w g x) : ∃ (A : Option Addr) (c : Nat) (xs : List Value), F g ∧ Bk w g 280 #[.bool x.all, .slice A x.ms.length c] ∧ x.ms.length * 8 ≤ R47 ∧ x.ms.length ≤ c ∧ c ≤ maxLen ∧ Row F w 1 A x.ms.length xs ∧ Cells 1 (MQ F w) x.ms xs := by
 cases h with
 | @mk _ all ms A c xs G H h1 h2 h3 h4 h5 h6 h7 h8 =>
  exact ⟨A, c, xs, h1, h2, h3, h4, h5, h6, h6.1, fun i k hk => ⟨G i, H i, (h7 i k hk).1, (h7 i k hk).2, h8 i k hk⟩⟩
theorem MatR.of_parts {F : Nat → Prop} {w : World} {g : Nat} {all : Bool} {ms : List (Option E × Mt)} {A : Option Addr} {c : Nat} {xs : List Value} (h1 : F g) (h2 : Bk w g 280 #[.bool all, .slice A ms.length c]) (h3 : ms.length * 8 ≤ R47) (h4 : ms.length ≤ c) (h5 : c ≤ maxLen) (h6 : Row F w 1 A ms.length xs) (h7 : Cells 1 (MQ F w) ms xs) : MatR F w g (.mk all ms) := by
 have hall : ∀ i, i < ms.length → ∃ GH : Nat × Nat, ∀ k, ms[i]? = some k → ((xs.drop (i * 1)).take 1 = [.pointer (some ⟨GH.1, 0, none⟩)] ∧ MemAt F w GH.1 GH.2 k.1) ∧ MatR F w GH.2 k.2 := fun i hi => by
  obtain ⟨b, g, q1, q2, q3⟩ := h7.2 i ms[i] (List.getElem?_eq_getElem hi)
  exact ⟨(b, g), fun k hk => by rw [List.getElem?_eq_getElem hi] at hk; cases hk; exact ⟨⟨q1, q2⟩, q3⟩⟩
 obtain ⟨G, hG⟩ := Deep.choose_lt hall
 exact .mk (G := fun i => (G i).1) (H := fun i => (G i).2) h1 h2 h3 h4 h5 h6 (fun i k hk => (hG i (List.getElem?_eq_some_iff.1 hk).1 k hk).1) fun i k hk => (hG i (List.getElem?_eq_some_iff.1 hk).1 k hk).2

theorem hitM_at {e : E} {ms : List (Option E × Mt)} {j : Nat} {q : Option E × Mt} (hj : ms[j]? = some q) (hq : okM e q = true) (hn : ∀ (i : Nat) p, i < j → ms[i]? = some p → okM e p = false) : hitM e ms = some q := by
 unfold hitM
 induction ms generalizing j with
 | nil => simp at hj
 | cons a ms ih =>
  cases j with
  | zero =>
   simp at hj
   subst hj
   rw [List.find?_cons, hq]
  | succ j =>
   rw [List.find?_cons, hn 0 a (by omega) rfl]
   exact ih (by simpa using hj) fun i p hi hp => hn (i + 1) p (by omega) (by simpa using hp)
theorem hitM_none {e : E} {ms : List (Option E × Mt)} (hn : ∀ (i : Nat) p, ms[i]? = some p → okM e p = false) : hitM e ms = none := by
 unfold hitM
 refine List.find?_eq_none.2 fun p hp => ?_
 obtain ⟨i, hi⟩ := List.getElem?_of_mem hp
 rw [hn i p hi]
 decide

def Aloof (R : Nat → Prop) (W : World) (s : Value) (b : Nat) : Prop := R b ∧ b < W.heap.size ∧ s.ownBlock ≠ some b
theorem aloof_below {α : Type} {k : Nat} {Q : (Nat → Prop) → World → α → List Value → Prop} (qk : ∀ {F : Nat → Prop} {w w' : World} {a : α} {cs : List Value}, Q F w a cs → Keeps F w w' → Q F w' a cs) (qm : ∀ {F G : Nat → Prop} {w : World} {a : α} {cs : List Value}, Q F w a cs → (∀ b, F b → G b) → Q G w a cs)
  {R : Nat → Prop} {W V : World} {s : Value} {ls : List α} {us : List Value} (h : Cells k (Q (Aloof R W s) W) ls us) (hb : Below W.heap.size W V) : Cells k (Q (Aloof R V s) V) ls us :=
 h.mono fun _ _ h => qm (qk h (Keeps.below hb fun b hb => hb.2.1)) fun b hb' => ⟨hb'.1, Nat.lt_of_lt_of_le hb'.2.1 hb.size, hb'.2.2⟩
theorem aloof_step {α : Type} {k : Nat} {Q : (Nat → Prop) → World → α → List Value → Prop} (qk : ∀ {F : Nat → Prop} {w w' : World} {a : α} {cs : List Value}, Q F w a cs → Keeps F w w' → Q F w' a cs) (qm : ∀ {F G : Nat → Prop} {w : World} {a : α} {cs : List Value}, Q F w a cs → (∀ b, F b → G b) → Q G w a cs)
  {R : Nat → Prop} {V W3 : World} {s s' : Value} {ls add : List α} {us news : List Value} (hc : Cells k (Q (Aloof R V s) V) ls us) (hadd : Cells k (Q (Aloof R V s) V) add news) (hg : V.grownBy W3 s.ownBlock) (hat : s'.ownBlock = s.ownBlock ∨ s'.ownBlock = some V.heap.size) : Cells k (Q (Aloof R W3 s') W3) (ls ++ add) (us ++ news) := by
 have hk : Keeps (Aloof R V s) V W3 := fun b hb => hg.block b hb.2.1 fun e => hb.2.2 e.symm
 have hm : ∀ b, Aloof R V s b → Aloof R W3 s' b := fun b hb => by
  refine ⟨hb.1, Nat.lt_of_lt_of_le hb.2.1 hg.size, fun e => ?_⟩
  rcases hat with e' | e'
  ·exact hb.2.2 (by rw [← e']; exact e)
  ·rw [e'] at e
   have e3 : V.heap.size = b := Option.some.inj e
   have := hb.2.1
   omega
 exact Cells.append (hc.mono fun _ _ h => qm (qk h hk) hm) (hadd.mono fun _ _ h => qm (qk h hk) hm)
theorem insC_last {l : List E} {e : E} (h : ∀ a ∈ l, E.cmp a e < 0) : insC E.cmp e l = l ++ [e] := by
 induction l with
 | nil => rfl
 | cons a l ih => rw [insC, if_pos (h a (by simp)), ih fun x hx => h x (by simp [hx])]; rfl

end Go.Proofs.YtbicoknghdgahaaGreat
