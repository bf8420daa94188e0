/-
  The contracts of Clear, Flip and ClearAll, for sets of at most 20000 bits.
-/
import Derived.Test.YtafbdkcbgjpolaaDoorBuild
import Derived.Deep.RegionWith
namespace Go.Proofs.YtafbdkcbgjpolaaDoor
set_option linter.unusedSimpArgs false
set_option linter.unusedVariables false
set_option maxRecDepth 100000
open Go.RowKit




end Go.Proofs.YtafbdkcbgjpolaaDoor
