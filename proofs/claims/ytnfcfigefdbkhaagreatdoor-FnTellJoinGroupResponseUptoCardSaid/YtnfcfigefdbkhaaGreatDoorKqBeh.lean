/- What all messages of this program share, when they are written. -/
import Derived.Test.YtnfcfigefdbkhaaGreatDoorKqInst
import Derived.Test.YtnfcfigefdbkhaaGreatDoorKqRdX
import Derived.Test.YtnfcfigefdbkhaaGreatDoorKqSrt
import Derived.Test.YtnfcfigefdbkhaaGreatDoorKqP03
import Derived.Test.YtnfcfigefdbkhaaGreatDoorKqP02
import Derived.Test.YtnfcfigefdbkhaaGreatDoorKqP04
import Derived.Test.YtnfcfigefdbkhaaGreatDoorKqP05
set_option linter.unusedVariables false
set_option linter.unusedSimpArgs false
namespace Go.Proofs.YtnfcfigefdbkhaaGreatDoor
open Go.Kq
theorem octT:zeroIs Tryz.prog 5 [.int .u8 0]:=zeroB_is (by kernel_rfl)
theorem boolT:zeroOf Tryz.prog 4 (.bool false):=zeroVB_is (by kernel_rfl)
theorem sameM:SameM Tryz.prog 35:=same_m (et:=5) (bs:=1) (by kernel_rfl) Tryz.func35 (by kernel_rfl) rfl rfl rfl (by kernel_rfl) (by kernel_rfl) (by kernel_rfl)
end Go.Proofs.YtnfcfigefdbkhaaGreatDoor
