/- What all messages of this program share, when they are written. -/
import Derived.Test.YtokkeelmccdcaaaGreatDoorKqInst
import Derived.Test.YtokkeelmccdcaaaGreatDoorKqRdX
import Derived.Test.YtokkeelmccdcaaaGreatDoorKqSrt
import Derived.Test.YtokkeelmccdcaaaGreatDoorKqP01
import Derived.Test.YtokkeelmccdcaaaGreatDoorKqP03
import Derived.Test.YtokkeelmccdcaaaGreatDoorKqP05
set_option linter.unusedVariables false
set_option linter.unusedSimpArgs false
namespace Go.Proofs.YtokkeelmccdcaaaGreatDoor
open Go.Kq
theorem octT : zeroIs Tryz.prog 5 [.int .u8 0] := zeroB_is (by kernel_rfl)
theorem sameM : SameM Tryz.prog 12 := same_m (et := 5) (bs := 1) (by kernel_rfl) Tryz.func12 (by kernel_rfl) rfl rfl rfl (by kernel_rfl) (by kernel_rfl) (by kernel_rfl)
end Go.Proofs.YtokkeelmccdcaaaGreatDoor
