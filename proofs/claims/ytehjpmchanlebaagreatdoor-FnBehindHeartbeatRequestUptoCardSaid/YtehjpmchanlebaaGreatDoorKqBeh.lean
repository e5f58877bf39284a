/- What all messages of this program share, when they are written. -/
import Derived.Test.YtehjpmchanlebaaGreatDoorKqInst
import Derived.Test.YtehjpmchanlebaaGreatDoorKqRdX
import Derived.Test.YtehjpmchanlebaaGreatDoorKqSrt
import Derived.Test.YtehjpmchanlebaaGreatDoorKqP01
import Derived.Test.YtehjpmchanlebaaGreatDoorKqP03
import Derived.Test.YtehjpmchanlebaaGreatDoorKqP05
set_option linter.unusedVariables false
set_option linter.unusedSimpArgs false
namespace Go.Proofs.YtehjpmchanlebaaGreatDoor
open Go.Kq
theorem octT : zeroIs Tryz.prog 5 [.int .u8 0] := zeroB_is (by kernel_rfl)
theorem sameM : SameM Tryz.prog 11 := same_m (et := 5) (bs := 1) (by kernel_rfl) Tryz.func11 (by kernel_rfl) rfl rfl rfl (by kernel_rfl) (by kernel_rfl) (by kernel_rfl)
end Go.Proofs.YtehjpmchanlebaaGreatDoor
