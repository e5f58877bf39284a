/- What all messages of this program share, when they are written. -/
import Derived.Test.YtfapegflnipofaaGreatDoorKqInst
import Derived.Test.YtfapegflnipofaaGreatDoorKqRdX
import Derived.Test.YtfapegflnipofaaGreatDoorKqSrt
import Derived.Test.YtfapegflnipofaaGreatDoorKqP02
import Derived.Test.YtfapegflnipofaaGreatDoorKqP01
import Derived.Test.YtfapegflnipofaaGreatDoorKqP03
import Derived.Test.YtfapegflnipofaaGreatDoorKqP04
import Derived.Test.YtfapegflnipofaaGreatDoorKqP05
set_option linter.unusedVariables false
set_option linter.unusedSimpArgs false
namespace Go.Proofs.YtfapegflnipofaaGreatDoor
open Go.Kq
theorem octT : zeroIs Tryz.prog 5 [.int .u8 0] := zeroB_is (by kernel_rfl)
theorem sameM : SameM Tryz.prog 15 := same_m (et := 5) (bs := 1) (by kernel_rfl) Tryz.func15 (by kernel_rfl) rfl rfl rfl (by kernel_rfl) (by kernel_rfl) (by kernel_rfl)
end Go.Proofs.YtfapegflnipofaaGreatDoor
