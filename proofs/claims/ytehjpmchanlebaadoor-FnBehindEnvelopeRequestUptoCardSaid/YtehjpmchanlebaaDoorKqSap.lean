/- The appending functions of this program, each by its contract. Printed by mk_sap.py. -/
import Derived.Test.YtehjpmchanlebaaDoorKqBeh
set_option linter.unusedVariables false
set_option linter.unusedSimpArgs false
namespace Go.Proofs.YtehjpmchanlebaaDoor
open Go.Kq
set_option maxRecDepth 20000 in
theorem sU32 : ApI Tryd.prog 82 .u32 4 := ap_u32 (te := 5) Tryd.func82 (by kernel_rfl) rfl rfl rfl (by kernel_rfl) (by kernel_rfl) (by kernel_rfl) octT
set_option maxRecDepth 20000 in
theorem sI32 : ApI Tryd.prog 56 .i32 4 := ap_i32 (te := 5) Tryd.func56 (by kernel_rfl) rfl rfl rfl (by kernel_rfl) (by kernel_rfl) sU32
set_option maxRecDepth 20000 in
theorem sLen32 : Len32M Tryd.prog 98 := len32_m Tryd.func98 (by kernel_rfl) rfl rfl rfl (by kernel_rfl) (by kernel_rfl) (by kernel_rfl) (by kernel_rfl) rfl (tabL_is (by kernel_rfl))
set_option maxRecDepth 20000 in
theorem sUvLen : UvLenM Tryd.prog 84 := uvlen_m Tryd.func84 (by kernel_rfl) rfl rfl rfl (by kernel_rfl) (by kernel_rfl) (by kernel_rfl) rfl (tabU_is (by kernel_rfl)) sLen32
set_option maxRecDepth 20000 in
theorem sUv : ApU Tryd.prog 58 := ap_uv (te := 5) Tryd.func58 (by kernel_rfl) rfl rfl rfl (by kernel_rfl) (by kernel_rfl) (by kernel_rfl) octT sUvLen
set_option maxRecDepth 20000 in
theorem sBytes : ApV Tryd.prog 67 .bytes apBytes := ap_bytes (te := 5) Tryd.func67 (by kernel_rfl) rfl rfl rfl (by kernel_rfl) (by kernel_rfl) (by kernel_rfl) (by kernel_rfl) octT sI32
set_option maxRecDepth 20000 in
theorem sCBytes : ApV Tryd.prog 66 .bytes apCBytes := ap_cbytes (te := 5) Tryd.func66 (by kernel_rfl) rfl rfl rfl (by kernel_rfl) (by kernel_rfl) (by kernel_rfl) (by kernel_rfl) octT sUv
set_option maxRecDepth 20000 in
theorem sNBytes : ApV Tryd.prog 71 .bytes apNBytes := ap_nbytes (te := 5) Tryd.func71 (by kernel_rfl) rfl rfl rfl (by kernel_rfl) sI32 sBytes
set_option maxRecDepth 20000 in
theorem sCNBytes : ApV Tryd.prog 70 .bytes apCNBytes := ap_cnbytes (te := 5) Tryd.func70 (by kernel_rfl) rfl rfl rfl (by kernel_rfl) sUv sCBytes
theorem aeM : AeM Tryd.prog 86 := ae_m (et := 5) Tryd.func86 (by kernel_rfl) rfl rfl rfl sUv (by kernel_rfl) octT (by kernel_rfl) (by kernel_rfl) (by kernel_rfl)
theorem tagLenM : TagLen Tryd.prog 59 := taglen_m (kt := 58) (et := 22) Tryd.func59 (by kernel_rfl) rfl rfl rfl (by kernel_rfl) (by kernel_rfl) (by kernel_rfl)
theorem tagEachM : TagEach Tryd.prog 60 := tageach_m Tryd.func60 (by kernel_rfl) rfl rfl rfl eachM aeM (by kernel_rfl)
end Go.Proofs.YtehjpmchanlebaaDoor
