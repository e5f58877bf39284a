/- What all messages of this program share, when they are written. -/
import Derived.Test.YtalkojnkkncdfaaGreatDoorKqInst
import Derived.Test.YtalkojnkkncdfaaGreatDoorKqRdX
import Derived.Test.YtalkojnkkncdfaaGreatDoorKqSrt
import Derived.Test.YtalkojnkkncdfaaGreatDoorKqP03
import Derived.Test.YtalkojnkkncdfaaGreatDoorKqP02
import Derived.Test.YtalkojnkkncdfaaGreatDoorKqP05
set_option linter.unusedVariables false
set_option linter.unusedSimpArgs false
namespace Go.Proofs.YtalkojnkkncdfaaGreatDoor
open Go.Kq
theorem octT : zeroIs Tryz.prog 5 [.int .u8 0] := zeroB_is (by kernel_rfl)
theorem boolT : zeroOf Tryz.prog 4 (.bool false) := zeroVB_is (by kernel_rfl)
theorem sameM : SameM Tryz.prog 39 := same_m (et := 5) (bs := 1) (by kernel_rfl) Tryz.func39 (by kernel_rfl) rfl rfl rfl (by kernel_rfl) (by kernel_rfl) (by kernel_rfl)
end Go.Proofs.YtalkojnkkncdfaaGreatDoor
