/-
  impl.fromTree and impl.fromValue: a tree of the package is taken apart into a new struct, its plain form.
-/
import Derived.Test.YtajeghkjppkhcaaSortedK
set_option linter.unusedVariables false
set_option linter.unusedSimpArgs false
namespace Go.Proofs.Ytajeghkjppkhcaa
open Go.RowKit
end Go.Proofs.Ytajeghkjppkhcaa
