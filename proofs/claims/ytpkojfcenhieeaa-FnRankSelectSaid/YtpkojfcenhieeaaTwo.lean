/-
  The contracts of panicIfNull, wordCount, sortByLength; for sets of at most 20000 bits.
-/
import Derived.Test.YtpkojfcenhieeaaMix
namespace Go.Proofs.Ytpkojfcenhieeaa
set_option linter.unusedSimpArgs false
set_option linter.unusedVariables false
open Go.RowKit



end Go.Proofs.Ytpkojfcenhieeaa
