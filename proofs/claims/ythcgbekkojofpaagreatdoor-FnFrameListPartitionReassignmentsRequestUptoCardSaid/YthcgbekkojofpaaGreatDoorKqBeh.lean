/- What all messages of this program share, when they are written. -/
import Derived.Test.YthcgbekkojofpaaGreatDoorKqInst
import Derived.Test.YthcgbekkojofpaaGreatDoorKqRdX
import Derived.Test.YthcgbekkojofpaaGreatDoorKqSrt
import Derived.Test.YthcgbekkojofpaaGreatDoorKqP02
import Derived.Test.YthcgbekkojofpaaGreatDoorKqP03
import Derived.Test.YthcgbekkojofpaaGreatDoorKqP05
set_option linter.unusedVariables false
set_option linter.unusedSimpArgs false
namespace Go.Proofs.YthcgbekkojofpaaGreatDoor
open Go.Kq
theorem octT : zeroIs Tryz.prog 5 [.int .u8 0] := zeroB_is (by kernel_rfl)
theorem sameM : SameM Tryz.prog 14 := same_m (et := 5) (bs := 1) (by kernel_rfl) Tryz.func14 (by kernel_rfl) rfl rfl rfl (by kernel_rfl) (by kernel_rfl) (by kernel_rfl)
end Go.Proofs.YthcgbekkojofpaaGreatDoor
