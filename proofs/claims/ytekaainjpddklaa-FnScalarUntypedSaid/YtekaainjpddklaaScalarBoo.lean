/-
  The package's scalars: which values the kind boolean lets in.
-/
import Derived.Test.YtekaainjpddklaaScalarZ
namespace Go.Proofs.Ytekaainjpddklaa
open Go.RowKit
attribute [local go_sem] run_store_float run_load_k meth_IsNull meth_IsFloat meth_IsInt meth_IsString meth_IsBool
attribute [local go_sem] T.isNull T.isFlt T.isInt T.isStr T.isBool

set_option maxRecDepth 100000 in
set_option maxHeartbeats 1000000 in
theorem validateBoo {F : Nat → Prop} {t : T} {v : Value} {w : World} (hv : ValAt F w t v) (hF : ∀ b, F b → b < w.heap.size) (g : Nat) (hg : Bk w g 83 #[.string ⟨#[98, 111, 111, 108, 101, 97, 110]⟩]) :
    Calls Try.prog 97 #[.pointer (some ⟨g, 0, none⟩), v, .string ⟨#[]⟩] w (GivesFit t.fitsBoo w) := by
  obtain ⟨p, u, rfl, hp, hB, hu⟩ := hv
  have hpl := hF p hp
  have hgl := hg.lt
  have hc := hB.cell 0
  have hgc := hg.cell 0
  simp at hc hgc
  clear hB hg hF hp
  have hst : St w p g u (.string ⟨#[98, 111, 111, 108, 101, 97, 110]⟩) w := ⟨hc, hgc, Below.refl _ _⟩
  have Hu := hide hu
  clear hu
  cases t
  all_goals
    go_enter Try.func97, Try.ntmps97
    go_wp2_with (first | (go_at_call 178; refine (St.call hst hpl hgl (IsNull_calls Hu.out _)).mono ?_; rintro e w1 ⟨rfl, hst⟩; have hc := hst.1; have hgc := hst.2.1) | (go_at_call 174; refine (St.call hst hpl hgl (IsFloat_calls Hu.out _)).mono ?_; rintro e w1 ⟨rfl, hst⟩; have hc := hst.1; have hgc := hst.2.1) | (go_at_call 175; refine (St.call hst hpl hgl (IsInt_calls Hu.out _)).mono ?_; rintro e w1 ⟨rfl, hst⟩; have hc := hst.1; have hgc := hst.2.1) | (go_at_call 179; refine (St.call hst hpl hgl (IsString_calls Hu.out _)).mono ?_; rintro e w1 ⟨rfl, hst⟩; have hc := hst.1; have hgc := hst.2.1) | (go_at_call 173; refine (St.call hst hpl hgl (IsBool_calls Hu.out _)).mono ?_; rintro e w1 ⟨rfl, hst⟩; have hc := hst.1; have hgc := hst.2.1) | (go_at_call 131; refine (errorf_calls _ _).mono ?_; rintro e w' ⟨A, c, o, rfl, rfl⟩))
    go_ret
    exact ⟨_, _, rfl, by first | exact hst.2.2 | exact hst.2.2.alloc hst.2.2.size _⟩

end Go.Proofs.Ytekaainjpddklaa
