/- What all messages of this program share, when they are written. -/
import Derived.Test.YtleogmaodkgkkaaGreatDoorKqInst
import Derived.Test.YtleogmaodkgkkaaGreatDoorKqRdX
import Derived.Test.YtleogmaodkgkkaaGreatDoorKqSrt
import Derived.Test.YtleogmaodkgkkaaGreatDoorKqP01
import Derived.Test.YtleogmaodkgkkaaGreatDoorKqP02
import Derived.Test.YtleogmaodkgkkaaGreatDoorKqP04
import Derived.Test.YtleogmaodkgkkaaGreatDoorKqP05
set_option linter.unusedVariables false
set_option linter.unusedSimpArgs false
namespace Go.Proofs.YtleogmaodkgkkaaGreatDoor
open Go.Kq
theorem octT : zeroIs Tryz.prog 5 [.int .u8 0] := zeroB_is (by kernel_rfl)
theorem sameM : SameM Tryz.prog 15 := same_m (et := 5) (bs := 1) (by kernel_rfl) Tryz.func15 (by kernel_rfl) rfl rfl rfl (by kernel_rfl) (by kernel_rfl) (by kernel_rfl)
end Go.Proofs.YtleogmaodkgkkaaGreatDoor
