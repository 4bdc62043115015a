/-
  Several texts in one: SpecPath, SpecWalk, SpecWalk2.
-/
import Derived.Test.YtajeghkjppkhcaaGreatElemSpA
import Derived.Test.YtajeghkjppkhcaaGreatPathMC
import Derived.Test.YtajeghkjppkhcaaGreatESetL
import Derived.Test.YtajeghkjppkhcaaGreatSetP
import Derived.Test.YtajeghkjppkhcaaGreatFromElem
import Derived.Test.YtajeghkjppkhcaaGreatElemSetX
set_option linter.unusedVariables false
set_option linter.unusedSimpArgs false
/-!
  spec.HasPrefix, EqualPaths, EqualElemLists; laws.sorted. Printed by genspecpath.py.
-/

namespace Go.Proofs.YtajeghkjppkhcaaGreat
open Go.RowKit
attribute [local go_sem] run_store_float

end Go.Proofs.YtajeghkjppkhcaaGreat

/-!
  spec.walkCompare, place, CleanPath, Listed. Printed by genspecwalk.py.
-/

namespace Go.Proofs.YtajeghkjppkhcaaGreat
open Go.RowKit
attribute [local go_sem] run_store_float

/-- the paths of a list, in order -/
def pelsP (ls : List (List REl)) : List (List E) := ls.map pel
end Go.Proofs.YtajeghkjppkhcaaGreat

/-!
  spec.CleanPath, Listed. Printed by genspecwalk2.py.
-/

namespace Go.Proofs.YtajeghkjppkhcaaGreat
open Go.RowKit
attribute [local go_sem] run_store_float

end Go.Proofs.YtajeghkjppkhcaaGreat
