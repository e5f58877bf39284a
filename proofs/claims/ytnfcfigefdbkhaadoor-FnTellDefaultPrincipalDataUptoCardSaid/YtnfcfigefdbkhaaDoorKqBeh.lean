/- What all messages of this program share, when they are written. -/
import Derived.Test.YtnfcfigefdbkhaaDoorKqInst
import Derived.Test.YtnfcfigefdbkhaaDoorKqRdX
import Derived.Test.YtnfcfigefdbkhaaDoorKqSrt
import Derived.Test.YtnfcfigefdbkhaaDoorKqP02
import Derived.Test.YtnfcfigefdbkhaaDoorKqP01
import Derived.Test.YtnfcfigefdbkhaaDoorKqP03
import Derived.Test.YtnfcfigefdbkhaaDoorKqP04
set_option linter.unusedVariables false
set_option linter.unusedSimpArgs false
namespace Go.Proofs.YtnfcfigefdbkhaaDoor
open Go.Kq
theorem octT:zeroIs Tryd.prog 5 [.int .u8 0]:=zeroB_is (by kernel_rfl)
theorem sameM:SameM Tryd.prog 28:=same_m (et:=5) (bs:=1) (by kernel_rfl) Tryd.func28 (by kernel_rfl) rfl rfl rfl (by kernel_rfl) (by kernel_rfl) (by kernel_rfl)
end Go.Proofs.YtnfcfigefdbkhaaDoor
