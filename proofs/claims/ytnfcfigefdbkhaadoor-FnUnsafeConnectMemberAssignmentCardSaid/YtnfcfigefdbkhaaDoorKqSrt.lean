/- sort.Slice of keys at this program. -/
import Derived.Test.YtnfcfigefdbkhaaDoorKqInst
import Derived.Test.YtnfcfigefdbkhaaDoorKqLay
import Derived.Test.YtnfcfigefdbkhaaDoorKqP02
import Derived.Lib.SortBridge
import Derived.Sort.LotA
import Derived.Shelf.GgSortFunc.Whole
import Derived.Shelf.GgSortFunc.Tiny
set_option linter.unusedVariables false
set_option linter.unusedSimpArgs false
namespace Go.Proofs.YtnfcfigefdbkhaaDoor
open Go.RowKit Go.Kq
end Go.Proofs.YtnfcfigefdbkhaaDoor
