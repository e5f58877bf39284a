/- What all messages of this program share, when they are written. -/
import Derived.Test.YtehjpmchanlebaaDoorKqInst
import Derived.Test.YtehjpmchanlebaaDoorKqRdX
import Derived.Test.YtehjpmchanlebaaDoorKqSrt
import Derived.Test.YtehjpmchanlebaaDoorKqP01
import Derived.Test.YtehjpmchanlebaaDoorKqP02
import Derived.Test.YtehjpmchanlebaaDoorKqP03
import Derived.Test.YtehjpmchanlebaaDoorKqP05
set_option linter.unusedVariables false
set_option linter.unusedSimpArgs false
namespace Go.Proofs.YtehjpmchanlebaaDoor
open Go.Kq
theorem octT : zeroIs Tryd.prog 5 [.int .u8 0] := zeroB_is (by kernel_rfl)
theorem sameM : SameM Tryd.prog 13 := same_m (et := 5) (bs := 1) (by kernel_rfl) Tryd.func13 (by kernel_rfl) rfl rfl rfl (by kernel_rfl) (by kernel_rfl) (by kernel_rfl)
end Go.Proofs.YtehjpmchanlebaaDoor
