/- What all whole requests of this program share. -/
import Derived.Test.YtjalbgfaneemfaaGreatDoorKqSap
import Derived.Test.YtjalbgfaneemfaaGreatDoorKqSwr
import Derived.Test.YtjalbgfaneemfaaGreatDoorKqP06
set_option linter.unusedVariables false
set_option linter.unusedSimpArgs false
namespace Go.Proofs.YtjalbgfaneemfaaGreatDoor
open Go.Kq
theorem flexM : FlexM Tryz.prog 16 := flex_m Tryz.func16 (by kernel_rfl) rfl rfl rfl (fBi (by kernel_rfl)) (by kernel_rfl)
theorem oU32 : Ap4M Tryz.prog 122 .u32 := over_u32 (te := 5) Tryz.func122 (by kernel_rfl) rfl rfl rfl (by kernel_rfl) (by kernel_rfl) (by kernel_rfl) octT
theorem oI32 : Ap4M Tryz.prog 97 .i32 := over_i32 Tryz.func97 (by kernel_rfl) rfl rfl rfl (by kernel_rfl) (by kernel_rfl) oU32
theorem closM : ClosM Tryz.prog 95 := fclos_m Tryz.func95 (by kernel_rfl) rfl rfl rfl (by kernel_rfl) (by kernel_rfl)
theorem applyM : ApplyM Tryz.prog 209 95 := fapply_m Tryz.func209 (by kernel_rfl) rfl rfl rfl (by kernel_rfl) (by kernel_rfl) closM
theorem clientM : ClientM Tryz.prog 63 95 132 := fclient_m Tryz.func63 (by kernel_rfl) rfl rfl rfl (fBi (by kernel_rfl)) (by kernel_rfl)
theorem newFM : NewFM Tryz.prog 62 95 132 := fnew_m (te := 91) (tb := 16) Tryz.func62 (by kernel_rfl) rfl rfl rfl (fBi (by kernel_rfl)) (by kernel_rfl) (by kernel_rfl) (by kernel_rfl) (fa := 209) (by kernel_rfl) applyM
theorem frameS : FrmS Tryz.prog 15 := frame_m (te := 5) Tryz.func15 (by kernel_rfl) rfl rfl rfl (by kernel_rfl) octT (by kernel_rfl) (by kernel_rfl) (by kernel_rfl) wFix
theorem fit4 : FitIM Tryz.prog 7 := fits4_m Tryz.func7 (by kernel_rfl) rfl rfl rfl (fBi (by kernel_rfl)) (by kernel_rfl) (by kernel_rfl)
end Go.Proofs.YtjalbgfaneemfaaGreatDoor
