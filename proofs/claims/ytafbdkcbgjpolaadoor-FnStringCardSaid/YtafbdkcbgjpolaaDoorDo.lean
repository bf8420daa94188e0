/-
  The contracts of the reference's Do, a step at a time: what each gives of a set of at most 6000 bits, at places from 0 to 2500.
-/
import Derived.Test.YtafbdkcbgjpolaaDoorAlike
namespace Go.Proofs.YtafbdkcbgjpolaaDoor
set_option linter.unusedSimpArgs false
set_option linter.unusedVariables false
set_option maxRecDepth 100000
open Go.RowKit

end Go.Proofs.YtafbdkcbgjpolaaDoor
