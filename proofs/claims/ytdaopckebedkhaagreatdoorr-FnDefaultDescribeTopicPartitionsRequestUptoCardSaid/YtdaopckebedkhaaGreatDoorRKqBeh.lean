/- What all messages of this program share, when they are written. -/
import Derived.Test.YtdaopckebedkhaaGreatDoorRKqInst
import Derived.Test.YtdaopckebedkhaaGreatDoorRKqRdX
import Derived.Test.YtdaopckebedkhaaGreatDoorRKqSrt
import Derived.Test.YtdaopckebedkhaaGreatDoorRKqP03
import Derived.Test.YtdaopckebedkhaaGreatDoorRKqP02
import Derived.Test.YtdaopckebedkhaaGreatDoorRKqP05
set_option linter.unusedVariables false
set_option linter.unusedSimpArgs false
namespace Go.Proofs.YtdaopckebedkhaaGreatDoorR
open Go.Kq
theorem octT : zeroIs Tryz.prog 5 [.int .u8 0] := zeroB_is (by kernel_rfl)
theorem boolT : zeroOf Tryz.prog 4 (.bool false) := zeroVB_is (by kernel_rfl)
end Go.Proofs.YtdaopckebedkhaaGreatDoorR
