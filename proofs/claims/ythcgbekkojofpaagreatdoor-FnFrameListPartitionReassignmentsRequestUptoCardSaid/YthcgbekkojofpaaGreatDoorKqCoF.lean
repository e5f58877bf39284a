/- What all whole requests of this program share. -/
import Derived.Test.YthcgbekkojofpaaGreatDoorKqSap
import Derived.Test.YthcgbekkojofpaaGreatDoorKqSwr
import Derived.Test.YthcgbekkojofpaaGreatDoorKqP06
set_option linter.unusedVariables false
set_option linter.unusedSimpArgs false
namespace Go.Proofs.YthcgbekkojofpaaGreatDoor
open Go.Kq
theorem flexM : FlexM Tryz.prog 16 := flex_m Tryz.func16 (by kernel_rfl) rfl rfl rfl (fBi (by kernel_rfl)) (by kernel_rfl)
theorem oU32 : Ap4M Tryz.prog 102 .u32 := over_u32 (te := 5) Tryz.func102 (by kernel_rfl) rfl rfl rfl (by kernel_rfl) (by kernel_rfl) (by kernel_rfl) octT
theorem oI32 : Ap4M Tryz.prog 85 .i32 := over_i32 Tryz.func85 (by kernel_rfl) rfl rfl rfl (by kernel_rfl) (by kernel_rfl) oU32
theorem closM : ClosM Tryz.prog 83 := fclos_m Tryz.func83 (by kernel_rfl) rfl rfl rfl (by kernel_rfl) (by kernel_rfl)
theorem applyM : ApplyM Tryz.prog 185 83 := fapply_m Tryz.func185 (by kernel_rfl) rfl rfl rfl (by kernel_rfl) (by kernel_rfl) closM
theorem clientM : ClientM Tryz.prog 60 83 120 := fclient_m Tryz.func60 (by kernel_rfl) rfl rfl rfl (fBi (by kernel_rfl)) (by kernel_rfl)
theorem newFM : NewFM Tryz.prog 59 83 120 := fnew_m (te := 89) (tb := 16) Tryz.func59 (by kernel_rfl) rfl rfl rfl (fBi (by kernel_rfl)) (by kernel_rfl) (by kernel_rfl) (by kernel_rfl) (fa := 185) (by kernel_rfl) applyM
theorem frameS : FrmS Tryz.prog 15 := frame_m (te := 5) Tryz.func15 (by kernel_rfl) rfl rfl rfl (by kernel_rfl) octT (by kernel_rfl) (by kernel_rfl) (by kernel_rfl) wFix
theorem fit4 : FitIM Tryz.prog 7 := fits4_m Tryz.func7 (by kernel_rfl) rfl rfl rfl (fBi (by kernel_rfl)) (by kernel_rfl) (by kernel_rfl)
end Go.Proofs.YthcgbekkojofpaaGreatDoor
