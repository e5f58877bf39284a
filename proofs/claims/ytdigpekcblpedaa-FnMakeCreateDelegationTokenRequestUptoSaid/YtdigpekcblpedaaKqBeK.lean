/- What all messages of this program share, when they are made. -/
import Derived.Test.YtdigpekcblpedaaProg
import Derived.WalkKit
import Derived.ProofKit
import Derived.Deep.QuietTactic
import Derived.BigQuiet
import Derived.StillTailTactics
import Derived.Lib.Hide
import Derived.Test.YtdigpekcblpedaaKqP06
import Derived.Test.YtdigpekcblpedaaKqP03
set_option linter.unusedVariables false
set_option linter.unusedSimpArgs false
namespace Go.Proofs.Ytdigpekcblpedaa
open Go.RowKit Go.Kq
theorem octT : zeroIs Try.prog 5 [.int .u8 0] := zeroB_is (by kernel_rfl)
theorem sameM : SameM Try.prog 12 := same_m (et := 5) (bs := 1) (by kernel_rfl) Try.func12 (by kernel_rfl) rfl rfl rfl (by kernel_rfl) (by kernel_rfl) (by kernel_rfl)
end Go.Proofs.Ytdigpekcblpedaa
