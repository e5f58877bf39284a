/- The appending functions of this program, each by its contract. Printed by mk_sap.py. -/
import Derived.Test.YthmejlgblhjcdaaGreatDoorKqBeh
set_option linter.unusedVariables false
set_option linter.unusedSimpArgs false
namespace Go.Proofs.YthmejlgblhjcdaaGreatDoor
open Go.Kq
set_option maxRecDepth 20000 in
theorem sU16 : ApI Tryz.prog 96 .u16 2 := ap_u16 (te := 5) Tryz.func96 (by kernel_rfl) rfl rfl rfl (by kernel_rfl) (by kernel_rfl) (by kernel_rfl) octT
set_option maxRecDepth 20000 in
theorem sU32 : ApI Tryz.prog 150 .u32 4 := ap_u32 (te := 5) Tryz.func150 (by kernel_rfl) rfl rfl rfl (by kernel_rfl) (by kernel_rfl) (by kernel_rfl) octT
set_option maxRecDepth 20000 in
theorem sU64 : ApI Tryz.prog 151 .u64 8 := ap_u64 (te := 5) Tryz.func151 (by kernel_rfl) rfl rfl rfl (by kernel_rfl) (by kernel_rfl) (by kernel_rfl) octT
set_option maxRecDepth 20000 in
theorem sI16 : ApI Tryz.prog 92 .i16 2 := ap_i16 (te := 5) Tryz.func92 (by kernel_rfl) rfl rfl rfl (by kernel_rfl) (by kernel_rfl) sU16
set_option maxRecDepth 20000 in
theorem sI32 : ApI Tryz.prog 93 .i32 4 := ap_i32 (te := 5) Tryz.func93 (by kernel_rfl) rfl rfl rfl (by kernel_rfl) (by kernel_rfl) sU32
set_option maxRecDepth 20000 in
theorem sI64 : ApI Tryz.prog 94 .i64 8 := ap_i64 (te := 5) Tryz.func94 (by kernel_rfl) rfl rfl rfl (by kernel_rfl) (by kernel_rfl) sU64
set_option maxRecDepth 20000 in
theorem sLen32 : Len32M Tryz.prog 177 := len32_m Tryz.func177 (by kernel_rfl) rfl rfl rfl (by kernel_rfl) (by kernel_rfl) (by kernel_rfl) (by kernel_rfl) rfl (tabL_is (by kernel_rfl))
set_option maxRecDepth 20000 in
theorem sUvLen : UvLenM Tryz.prog 137 := uvlen_m Tryz.func137 (by kernel_rfl) rfl rfl rfl (by kernel_rfl) (by kernel_rfl) (by kernel_rfl) rfl (tabU_is (by kernel_rfl)) sLen32
set_option maxRecDepth 20000 in
theorem sUv : ApU Tryz.prog 84 := ap_uv (te := 5) Tryz.func84 (by kernel_rfl) rfl rfl rfl (by kernel_rfl) (by kernel_rfl) (by kernel_rfl) octT sUvLen
set_option maxRecDepth 20000 in
theorem sStr : ApV Tryz.prog 80 .str apStr := ap_str (te := 5) Tryz.func80 (by kernel_rfl) rfl rfl rfl (by kernel_rfl) (by kernel_rfl) (by kernel_rfl) (by kernel_rfl) octT sI16
set_option maxRecDepth 20000 in
theorem sCStr : ApV Tryz.prog 79 .str apCStr := ap_cstr (te := 5) Tryz.func79 (by kernel_rfl) rfl rfl rfl (by kernel_rfl) (by kernel_rfl) (by kernel_rfl) (by kernel_rfl) octT sUv
set_option maxRecDepth 20000 in
theorem sNStr : ApV Tryz.prog 83 .pstr apNStr := ap_nstr (te := 5) Tryz.func83 (by kernel_rfl) rfl rfl rfl (by kernel_rfl) (by kernel_rfl) sI16 sStr
set_option maxRecDepth 20000 in
theorem sCNStr : ApV Tryz.prog 82 .pstr apCNStr := ap_cnstr (te := 5) Tryz.func82 (by kernel_rfl) rfl rfl rfl (by kernel_rfl) (by kernel_rfl) sUv sCStr
set_option maxRecDepth 20000 in
theorem sLen : ApL Tryz.prog 78 apLen := ap_len (te := 5) Tryz.func78 (by kernel_rfl) rfl rfl rfl (by kernel_rfl) (by kernel_rfl) sI32
set_option maxRecDepth 20000 in
theorem sCLen : ApL Tryz.prog 77 apCLen := ap_clen (te := 5) Tryz.func77 (by kernel_rfl) rfl rfl rfl (by kernel_rfl) (by kernel_rfl) sUv
theorem aeM : AeM Tryz.prog 138 := ae_m (et := 5) Tryz.func138 (by kernel_rfl) rfl rfl rfl sUv (by kernel_rfl) octT (by kernel_rfl) (by kernel_rfl) (by kernel_rfl)
theorem tagLenM : TagLen Tryz.prog 85 := taglen_m (kt := 75) (et := 22) Tryz.func85 (by kernel_rfl) rfl rfl rfl (by kernel_rfl) (by kernel_rfl) (by kernel_rfl)
theorem tagEachM : TagEach Tryz.prog 86 := tageach_m Tryz.func86 (by kernel_rfl) rfl rfl rfl eachM aeM (by kernel_rfl)
end Go.Proofs.YthmejlgblhjcdaaGreatDoor
