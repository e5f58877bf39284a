/- The appending functions of this program, each by its contract. Printed by mk_sap.py. -/
import Derived.Test.YtnfigjjpdhhfjaaGreatDoorKqBeh
set_option linter.unusedVariables false
set_option linter.unusedSimpArgs false
namespace Go.Proofs.YtnfigjjpdhhfjaaGreatDoor
open Go.Kq
set_option maxRecDepth 20000 in
theorem sU16:ApI Tryz.prog 72 .u16 2:=ap_u16 (te:=5) Tryz.func72 (by kernel_rfl) rfl rfl rfl (by kernel_rfl) (by kernel_rfl) (by kernel_rfl) octT
set_option maxRecDepth 20000 in
theorem sU32:ApI Tryz.prog 114 .u32 4:=ap_u32 (te:=5) Tryz.func114 (by kernel_rfl) rfl rfl rfl (by kernel_rfl) (by kernel_rfl) (by kernel_rfl) octT
set_option maxRecDepth 20000 in
theorem sU64:ApI Tryz.prog 131 .u64 8:=ap_u64 (te:=5) Tryz.func131 (by kernel_rfl) rfl rfl rfl (by kernel_rfl) (by kernel_rfl) (by kernel_rfl) octT
set_option maxRecDepth 20000 in
theorem sI16:ApI Tryz.prog 63 .i16 2:=ap_i16 (te:=5) Tryz.func63 (by kernel_rfl) rfl rfl rfl (by kernel_rfl) (by kernel_rfl) sU16
set_option maxRecDepth 20000 in
theorem sI32:ApI Tryz.prog 68 .i32 4:=ap_i32 (te:=5) Tryz.func68 (by kernel_rfl) rfl rfl rfl (by kernel_rfl) (by kernel_rfl) sU32
set_option maxRecDepth 20000 in
theorem sI64:ApI Tryz.prog 79 .i64 8:=ap_i64 (te:=5) Tryz.func79 (by kernel_rfl) rfl rfl rfl (by kernel_rfl) (by kernel_rfl) sU64
set_option maxRecDepth 20000 in
theorem sLen32:Z8B Tryz.prog 140:=len32_m Tryz.func140 (by kernel_rfl) rfl rfl rfl (by kernel_rfl) (by kernel_rfl) (by kernel_rfl) (by kernel_rfl) rfl (tabL_is (by kernel_rfl))
set_option maxRecDepth 20000 in
theorem sUvLen:Z8x Tryz.prog 115:=uvlen_m Tryz.func115 (by kernel_rfl) rfl rfl rfl (by kernel_rfl) (by kernel_rfl) (by kernel_rfl) rfl (tabU_is (by kernel_rfl)) sLen32
set_option maxRecDepth 20000 in
theorem sUv:ApU Tryz.prog 69:=ap_uv (te:=5) Tryz.func69 (by kernel_rfl) rfl rfl rfl (by kernel_rfl) (by kernel_rfl) (by kernel_rfl) octT sUvLen
set_option maxRecDepth 20000 in
theorem sStr:ApV Tryz.prog 67 .str Z1M:=ap_str (te:=5) Tryz.func67 (by kernel_rfl) rfl rfl rfl (by kernel_rfl) (by kernel_rfl) (by kernel_rfl) (by kernel_rfl) octT sI16
set_option maxRecDepth 20000 in
theorem sCStr:ApV Tryz.prog 66 .str Z0D:=ap_cstr (te:=5) Tryz.func66 (by kernel_rfl) rfl rfl rfl (by kernel_rfl) (by kernel_rfl) (by kernel_rfl) (by kernel_rfl) octT sUv
set_option maxRecDepth 20000 in
theorem sNStr:ApV Tryz.prog 82 .pstr Z1f:=ap_nstr (te:=5) Tryz.func82 (by kernel_rfl) rfl rfl rfl (by kernel_rfl) (by kernel_rfl) sI16 sStr
set_option maxRecDepth 20000 in
theorem sCNStr:ApV Tryz.prog 81 .pstr Z0E:=ap_cnstr (te:=5) Tryz.func81 (by kernel_rfl) rfl rfl rfl (by kernel_rfl) (by kernel_rfl) sUv sCStr
set_option maxRecDepth 20000 in
theorem sLen:ApL Tryz.prog 65 Z2k:=ap_len (te:=5) Tryz.func65 (by kernel_rfl) rfl rfl rfl (by kernel_rfl) (by kernel_rfl) sI32
set_option maxRecDepth 20000 in
theorem sCLen:ApL Tryz.prog 64 Z1y:=ap_clen (te:=5) Tryz.func64 (by kernel_rfl) rfl rfl rfl (by kernel_rfl) (by kernel_rfl) sUv
theorem aeM:AeM Tryz.prog 117:=ae_m (et:=5) Tryz.func117 (by kernel_rfl) rfl rfl rfl sUv (by kernel_rfl) octT (by kernel_rfl) (by kernel_rfl) (by kernel_rfl)
theorem tagLenM:Z4E Tryz.prog 70:=taglen_m (kt:=59) (et:=22) Tryz.func70 (by kernel_rfl) rfl rfl rfl (by kernel_rfl) (by kernel_rfl) (by kernel_rfl)
theorem tagEachM:Z48 Tryz.prog 71:=Z7C Tryz.func71 (by kernel_rfl) rfl rfl rfl eachM aeM (by kernel_rfl)
end Go.Proofs.YtnfigjjpdhhfjaaGreatDoor
