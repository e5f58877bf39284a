/- What all messages of this program share, when they are written. -/
import Derived.Test.YtdjknhnjjglalaaGreatDoorKqInst
import Derived.Test.YtdjknhnjjglalaaGreatDoorKqRdX
import Derived.Test.YtdjknhnjjglalaaGreatDoorKqSrt
import Derived.Test.YtdjknhnjjglalaaGreatDoorKqP03
import Derived.Test.YtdjknhnjjglalaaGreatDoorKqP02
import Derived.Test.YtdjknhnjjglalaaGreatDoorKqP05
set_option linter.unusedVariables false
set_option linter.unusedSimpArgs false
namespace Go.Proofs.YtdjknhnjjglalaaGreatDoor
open Go.Kq
theorem octT : zeroIs Tryz.prog 5 [.int .u8 0] := zeroB_is (by kernel_rfl)
theorem boolT : zeroOf Tryz.prog 4 (.bool false) := zeroVB_is (by kernel_rfl)
end Go.Proofs.YtdjknhnjjglalaaGreatDoor
