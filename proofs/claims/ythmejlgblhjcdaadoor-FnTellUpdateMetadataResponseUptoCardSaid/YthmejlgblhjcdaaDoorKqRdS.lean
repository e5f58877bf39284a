/- The reader's methods that give texts, each by its contract. -/
import Derived.Test.YthmejlgblhjcdaaDoorKqRdr
set_option linter.unusedVariables false
set_option linter.unusedSimpArgs false
namespace Go.Proofs.YthmejlgblhjcdaaDoor
open Go.RowKit Go.Kq
end Go.Proofs.YthmejlgblhjcdaaDoor
