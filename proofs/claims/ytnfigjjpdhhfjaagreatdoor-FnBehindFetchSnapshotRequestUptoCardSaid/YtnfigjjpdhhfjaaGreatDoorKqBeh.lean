/- What all messages of this program share, when they are written. -/
import Derived.Test.YtnfigjjpdhhfjaaGreatDoorKqInst
import Derived.Test.YtnfigjjpdhhfjaaGreatDoorKqRdX
import Derived.Test.YtnfigjjpdhhfjaaGreatDoorKqSrt
import Derived.Test.YtnfigjjpdhhfjaaGreatDoorKqP02
import Derived.Test.YtnfigjjpdhhfjaaGreatDoorKqP01
import Derived.Test.YtnfigjjpdhhfjaaGreatDoorKqP03
import Derived.Test.YtnfigjjpdhhfjaaGreatDoorKqP04
set_option linter.unusedVariables false
set_option linter.unusedSimpArgs false
namespace Go.Proofs.YtnfigjjpdhhfjaaGreatDoor
open Go.Kq
theorem octT:ZI Tryz.prog 5 [.int .u8 0]:=Z19 (by kernel_rfl)
theorem sameM:SameM Tryz.prog 13:=same_m (et:=5) (bs:=1) (by kernel_rfl) Tryz.func13 (by kernel_rfl) rfl rfl rfl (by kernel_rfl) (by kernel_rfl) (by kernel_rfl)
end Go.Proofs.YtnfigjjpdhhfjaaGreatDoor
