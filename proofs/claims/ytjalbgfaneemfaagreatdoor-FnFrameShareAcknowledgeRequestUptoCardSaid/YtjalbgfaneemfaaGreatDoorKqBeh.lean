/- What all messages of this program share, when they are written. -/
import Derived.Test.YtjalbgfaneemfaaGreatDoorKqInst
import Derived.Test.YtjalbgfaneemfaaGreatDoorKqRdX
import Derived.Test.YtjalbgfaneemfaaGreatDoorKqSrt
import Derived.Test.YtjalbgfaneemfaaGreatDoorKqP01
import Derived.Test.YtjalbgfaneemfaaGreatDoorKqP02
import Derived.Test.YtjalbgfaneemfaaGreatDoorKqP03
import Derived.Test.YtjalbgfaneemfaaGreatDoorKqP05
set_option linter.unusedVariables false
set_option linter.unusedSimpArgs false
namespace Go.Proofs.YtjalbgfaneemfaaGreatDoor
open Go.Kq
theorem octT : zeroIs Tryz.prog 5 [.int .u8 0] := zeroB_is (by kernel_rfl)
theorem sameM : SameM Tryz.prog 14 := same_m (et := 5) (bs := 1) (by kernel_rfl) Tryz.func14 (by kernel_rfl) rfl rfl rfl (by kernel_rfl) (by kernel_rfl) (by kernel_rfl)
end Go.Proofs.YtjalbgfaneemfaaGreatDoor
