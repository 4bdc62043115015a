/- Parts: Pels. -/
import Derived.Test.YtbicoknghdgahaaGreatKB14
set_option linter.unusedVariables false
set_option linter.unusedSimpArgs false
namespace Go.Proofs.YtbicoknghdgahaaGreat
open Go.RowKit

theorem pels_back {ps : List (List E)} (h : ∀ p ∈ ps, PWS p) : pels (ps.map (List.map E.toREl)) = ps := pelsP_back h
end Go.Proofs.YtbicoknghdgahaaGreat
