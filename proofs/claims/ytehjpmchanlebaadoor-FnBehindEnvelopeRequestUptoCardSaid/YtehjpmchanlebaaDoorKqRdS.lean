/- The reader's methods that give texts, each by its contract. -/
import Derived.Test.YtehjpmchanlebaaDoorKqRdr
set_option linter.unusedVariables false
set_option linter.unusedSimpArgs false
namespace Go.Proofs.YtehjpmchanlebaaDoor
open Go.RowKit Go.Kq
end Go.Proofs.YtehjpmchanlebaaDoor
