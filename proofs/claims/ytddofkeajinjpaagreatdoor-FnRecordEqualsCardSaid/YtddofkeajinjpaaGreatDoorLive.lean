/- The laws' small keys: keysLive. -/
import Derived.Test.YtddofkeajinjpaaGreatDoorLaw
namespace Go.Proofs.YtddofkeajinjpaaGreatDoor
open Go Go.RowKit
set_option linter.unusedVariables false
set_option linter.unusedSimpArgs false
set_option maxRecDepth 100000

end Go.Proofs.YtddofkeajinjpaaGreatDoor
