/-
  What is proved: the law FnCompareFloats answers true for every two floating-point numbers, and leaves its arguments as they were. No condition.
-/
import Derived.Test.YteopcnjncclfiaaRows
import Derived.WalkKit
import Derived.WalkSpells
import Derived.WalkLawsBesides
import Derived.ProofKit
namespace Go.Proofs.Yteopcnjncclfiaa
open Go.RowKit

def fcmp (o : Option Ordering) : Int := match o with | some .lt => -1 | some .gt => 1 | _ => 0

theorem fcompare_any (a b : Nat) (w : World) :
    Calls Try.prog 23 #[.float .f64 a, .float .f64 b] w fun e w' => e = .returned (.int .i64 (fcmp (FloatKind.f64.format.order a b))) ∧ w = w' := by
  generalize ho : FloatKind.f64.format.order a b = o
  rcases o with _ | (_ | _ | _)
  all_goals
    go_enter Try.func23, Try.ntmps23
    go_wp2
    go_ret
    exact ⟨rfl, rfl⟩

theorem scompare_any (a b : Nat) (w : World) :
    Calls Try.prog 9 #[.float .f64 a, .float .f64 b] w fun e w' => e = .returned (.int .i64 (fcmp (FloatKind.f64.format.order a b))) ∧ w = w' := by
  generalize ho : FloatKind.f64.format.order a b = o
  rcases o with _ | (_ | _ | _)
  all_goals
    go_enter Try.func9, Try.ntmps9
    go_wp2
    go_ret
    exact ⟨rfl, rfl⟩

theorem icompare_any (a b : Nat) (w : World) :
    Calls Try.prog 8 #[.float .f64 a, .float .f64 b] w fun e w' => e = .returned (.int .i64 (fcmp (FloatKind.f64.format.order a b))) ∧ w = w' := by
  go_enter Try.func8, Try.ntmps8
  go_wp2_with (go_at_call 23; refine (fcompare_any _ _ _).mono ?_; rintro e w' ⟨rfl, rfl⟩)
  go_ret
  exact ⟨rfl, rfl⟩

theorem law_any (a b : Nat) (w : World) :
    Calls Try.prog 3 #[.float .f64 a, .float .f64 b] w fun e w' => e = .returned (.bool true) ∧ w = w' := by
  cases ha : (FloatKind.f64.format.order a a != some .eq) <;> cases hb : (FloatKind.f64.format.order b b != some .eq)
  all_goals
    go_enter Try.func3, Try.ntmps3
    go_wp2_with (first | (go_at_call 8; refine (icompare_any _ _ _).mono ?_; rintro e w' ⟨rfl, rfl⟩) | (go_at_call 9; refine (scompare_any _ _ _).mono ?_; rintro e w' ⟨rfl, rfl⟩))
    go_ret
    exact ⟨rfl, rfl⟩

end Go.Proofs.Yteopcnjncclfiaa
