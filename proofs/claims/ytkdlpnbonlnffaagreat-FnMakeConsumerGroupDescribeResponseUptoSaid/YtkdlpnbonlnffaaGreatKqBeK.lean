/- What all messages of this program share, when they are made. -/
import Derived.Test.YtkdlpnbonlnffaaGreatProg
import Derived.WalkKit
import Derived.ProofKit
import Derived.Deep.QuietTactic
import Derived.BigQuiet
import Derived.StillTailTactics
import Derived.Lib.Hide
import Derived.Test.YtkdlpnbonlnffaaGreatKqP06
import Derived.Test.YtkdlpnbonlnffaaGreatKqP03
set_option linter.unusedVariables false
set_option linter.unusedSimpArgs false
namespace Go.Proofs.YtkdlpnbonlnffaaGreat
open Go.RowKit Go.Kq
theorem octT : zeroIs Tryz.prog 5 [.int .u8 0] := zeroB_is (by kernel_rfl)
theorem sameM : SameM Tryz.prog 8 := same_m (et := 5) (bs := 1) (by kernel_rfl) Tryz.func8 (by kernel_rfl) rfl rfl rfl (by kernel_rfl) (by kernel_rfl) (by kernel_rfl)
end Go.Proofs.YtkdlpnbonlnffaaGreat
