/- What all messages of this program share, when they are written. -/
import Derived.Test.YthmejlgblhjcdaaDoorKqInst
import Derived.Test.YthmejlgblhjcdaaDoorKqRdX
import Derived.Test.YthmejlgblhjcdaaDoorKqSrt
import Derived.Test.YthmejlgblhjcdaaDoorKqP01
import Derived.Test.YthmejlgblhjcdaaDoorKqP02
import Derived.Test.YthmejlgblhjcdaaDoorKqP03
import Derived.Test.YthmejlgblhjcdaaDoorKqP04
set_option linter.unusedVariables false
set_option linter.unusedSimpArgs false
namespace Go.Proofs.YthmejlgblhjcdaaDoor
open Go.Kq
theorem octT : zeroIs Tryd.prog 5 [.int .u8 0] := zeroB_is (by kernel_rfl)
theorem sameM : SameM Tryd.prog 26 := same_m (et := 5) (bs := 1) (by kernel_rfl) Tryd.func26 (by kernel_rfl) rfl rfl rfl (by kernel_rfl) (by kernel_rfl) (by kernel_rfl)
end Go.Proofs.YthmejlgblhjcdaaDoor
