/-
  Plain: comparisons answer -1, 0 or 1.
-/
import Derived.Test.YtajeghkjppkhcaaPathP
set_option linter.unusedVariables false
set_option linter.unusedSimpArgs false
namespace Go.Proofs.Ytajeghkjppkhcaa

def Bd (x : Int) : Prop := -1 ≤ x ∧ x ≤ 1
theorem bd_cmpI (a b : Int) : Bd (cmpI a b) := by unfold cmpI Bd; repeat' split
                                                  all_goals omega
theorem bd_cmpB (a b : Bool) : Bd (cmpB a b) := by unfold cmpB Bd; repeat' split
                                                   all_goals omega
theorem bd_fcmp (a b : Nat) : Bd (fcmp a b) := by unfold fcmp Bd; split <;> omega
theorem bd_bytes : ∀ (a b : List UInt8), Bd (Lib.compareBytes a b)
  | [], [] => by simp [Lib.compareBytes, Bd]
  | [], _ :: _ => by simp [Lib.compareBytes, Bd]
  | _ :: _, [] => by simp [Lib.compareBytes, Bd]
  | a :: x, b :: y => by
    have ih := bd_bytes x y
    unfold Lib.compareBytes
    repeat' split
    all_goals first | exact ih | (unfold Bd; omega)
theorem bd_cmpS (a b : ByteArray) : Bd (cmpS a b) := bd_bytes _ _
mutual
theorem bd_cmp : ∀ (a b : T), Bd (T.cmp a b)
  | .null, b => by cases b <;> exact bd_cmpI _ _
  | .bool _, b => by cases b <;> first | exact bd_cmpB _ _ | exact bd_cmpI _ _
  | .int _, b => by cases b <;> first | exact bd_fcmp _ _ | exact bd_cmpI _ _
  | .flt _, b => by cases b <;> first | exact bd_fcmp _ _ | exact bd_cmpI _ _
  | .str _, b => by cases b <;> first | exact bd_cmpS _ _ | exact bd_cmpI _ _
  | .list x, .list y => by rw [T.cmp]; exact bd_cmpL x y
  | .list _, .null => bd_cmpI _ _
  | .list _, .bool _ => bd_cmpI _ _
  | .list _, .int _ => bd_cmpI _ _
  | .list _, .flt _ => bd_cmpI _ _
  | .list _, .str _ => bd_cmpI _ _
  | .list _, .map _ => bd_cmpI _ _
  | .map x, .map y => by rw [T.cmp]; exact bd_cmpM x y
  | .map _, .null => bd_cmpI _ _
  | .map _, .bool _ => bd_cmpI _ _
  | .map _, .int _ => bd_cmpI _ _
  | .map _, .flt _ => bd_cmpI _ _
  | .map _, .str _ => bd_cmpI _ _
  | .map _, .list _ => bd_cmpI _ _
theorem bd_cmpL : ∀ (x y : List T), Bd (T.cmpL x y)
  | [], [] => by simp [T.cmpL, Bd]
  | [], _ :: _ => by simp [T.cmpL, Bd]
  | _ :: _, [] => by simp [T.cmpL, Bd]
  | a :: x, b :: y => by
    rw [T.cmpL]
    split
    · exact bd_cmpL x y
    · exact bd_cmp a b
theorem bd_cmpM : ∀ (x y : List (ByteArray × T)), Bd (T.cmpM x y)
  | [], [] => by simp [T.cmpM, Bd]
  | [], _ :: _ => by simp [T.cmpM, Bd]
  | _ :: _, [] => by simp [T.cmpM, Bd]
  | (k, a) :: x, (l, b) :: y => by
    rw [T.cmpM]
    split
    · split
      · exact bd_cmpM x y
      · exact bd_cmp a b
    · exact bd_cmpS k l
end
theorem bd_ecmp (a b : E) : Bd (E.cmp a b) := by
  cases a <;> cases b <;> first | exact bd_cmpS _ _ | exact bd_cmpM _ _ | exact bd_cmp _ _ | exact bd_cmpI _ _
theorem bd_pcmp : ∀ (p q : List E), Bd (pcmp p q)
  | [], [] => by simp [pcmp, Bd]
  | [], _ :: _ => by simp [pcmp, Bd]
  | _ :: _, [] => by simp [pcmp, Bd]
  | a :: p, b :: q => by
    rw [pcmp]
    split
    · exact bd_pcmp p q
    · exact bd_ecmp a b

end Go.Proofs.Ytajeghkjppkhcaa
