/- The reference's Count, by its contract. -/
import Derived.Test.YtefhjchhfpjciaaDoorC1
import Derived.Test.YtefhjchhfpjciaaDoorN1
set_option linter.unusedVariables false
set_option linter.unusedSimpArgs false
set_option maxRecDepth 100000
namespace Go.Proofs.YtefhjchhfpjciaaDoor
open Go Go.RowKit














end Go.Proofs.YtefhjchhfpjciaaDoor
