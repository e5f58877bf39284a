/- More of the reader's methods: groups of seven bits, what is counted by them, unknown tags. -/
import Derived.Test.YtnfcfigefdbkhaaDoorKqInst
import Derived.Test.YtnfcfigefdbkhaaDoorKqP02
import Derived.Laws.IdiomCopy
set_option linter.unusedVariables false
set_option linter.unusedSimpArgs false
namespace Go.Proofs.YtnfcfigefdbkhaaDoor
open Go.RowKit Go.Kq
end Go.Proofs.YtnfcfigefdbkhaaDoor
