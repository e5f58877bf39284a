/- The appending functions of this program, each by its contract. Printed by mk_sap.py. -/
import Derived.Test.YtjalbgfaneemfaaGreatDoorKqBeh
set_option linter.unusedVariables false
set_option linter.unusedSimpArgs false
namespace Go.Proofs.YtjalbgfaneemfaaGreatDoor
open Go.Kq
set_option maxRecDepth 20000 in
theorem sU16 : ApI Tryz.prog 121 .u16 2 := ap_u16 (te := 5) Tryz.func121 (by kernel_rfl) rfl rfl rfl (by kernel_rfl) (by kernel_rfl) (by kernel_rfl) octT
set_option maxRecDepth 20000 in
theorem sU32 : ApI Tryz.prog 122 .u32 4 := ap_u32 (te := 5) Tryz.func122 (by kernel_rfl) rfl rfl rfl (by kernel_rfl) (by kernel_rfl) (by kernel_rfl) octT
set_option maxRecDepth 20000 in
theorem sU64 : ApI Tryz.prog 197 .u64 8 := ap_u64 (te := 5) Tryz.func197 (by kernel_rfl) rfl rfl rfl (by kernel_rfl) (by kernel_rfl) (by kernel_rfl) octT
set_option maxRecDepth 20000 in
theorem sI8 : ApI Tryz.prog 196 .i8 1 := ap_i8 (te := 5) Tryz.func196 (by kernel_rfl) rfl rfl rfl (by kernel_rfl) (by kernel_rfl) (by kernel_rfl) octT
set_option maxRecDepth 20000 in
theorem sI16 : ApI Tryz.prog 96 .i16 2 := ap_i16 (te := 5) Tryz.func96 (by kernel_rfl) rfl rfl rfl (by kernel_rfl) (by kernel_rfl) sU16
set_option maxRecDepth 20000 in
theorem sI32 : ApI Tryz.prog 97 .i32 4 := ap_i32 (te := 5) Tryz.func97 (by kernel_rfl) rfl rfl rfl (by kernel_rfl) (by kernel_rfl) sU32
set_option maxRecDepth 20000 in
theorem sI64 : ApI Tryz.prog 195 .i64 8 := ap_i64 (te := 5) Tryz.func195 (by kernel_rfl) rfl rfl rfl (by kernel_rfl) (by kernel_rfl) sU64
set_option maxRecDepth 20000 in
theorem sBool : ApB Tryz.prog 148 := ap_bool (te := 5) Tryz.func148 (by kernel_rfl) rfl rfl rfl (by kernel_rfl) octT
set_option maxRecDepth 20000 in
theorem sLen32 : Len32M Tryz.prog 158 := len32_m Tryz.func158 (by kernel_rfl) rfl rfl rfl (by kernel_rfl) (by kernel_rfl) (by kernel_rfl) (by kernel_rfl) rfl (tabL_is (by kernel_rfl))
set_option maxRecDepth 20000 in
theorem sUvLen : UvLenM Tryz.prog 155 := uvlen_m Tryz.func155 (by kernel_rfl) rfl rfl rfl (by kernel_rfl) (by kernel_rfl) (by kernel_rfl) rfl (tabU_is (by kernel_rfl)) sLen32
set_option maxRecDepth 20000 in
theorem sUv : ApU Tryz.prog 152 := ap_uv (te := 5) Tryz.func152 (by kernel_rfl) rfl rfl rfl (by kernel_rfl) (by kernel_rfl) (by kernel_rfl) octT sUvLen
set_option maxRecDepth 20000 in
theorem sStr : ApV Tryz.prog 123 .str apStr := ap_str (te := 5) Tryz.func123 (by kernel_rfl) rfl rfl rfl (by kernel_rfl) (by kernel_rfl) (by kernel_rfl) (by kernel_rfl) octT sI16
set_option maxRecDepth 20000 in
theorem sCStr : ApV Tryz.prog 151 .str apCStr := ap_cstr (te := 5) Tryz.func151 (by kernel_rfl) rfl rfl rfl (by kernel_rfl) (by kernel_rfl) (by kernel_rfl) (by kernel_rfl) octT sUv
set_option maxRecDepth 20000 in
theorem sNStr : ApV Tryz.prog 98 .pstr apNStr := ap_nstr (te := 5) Tryz.func98 (by kernel_rfl) rfl rfl rfl (by kernel_rfl) (by kernel_rfl) sI16 sStr
set_option maxRecDepth 20000 in
theorem sCNStr : ApV Tryz.prog 194 .pstr apCNStr := ap_cnstr (te := 5) Tryz.func194 (by kernel_rfl) rfl rfl rfl (by kernel_rfl) (by kernel_rfl) sUv sCStr
set_option maxRecDepth 20000 in
theorem sLen : ApL Tryz.prog 150 apLen := ap_len (te := 5) Tryz.func150 (by kernel_rfl) rfl rfl rfl (by kernel_rfl) (by kernel_rfl) sI32
set_option maxRecDepth 20000 in
theorem sCLen : ApL Tryz.prog 149 apCLen := ap_clen (te := 5) Tryz.func149 (by kernel_rfl) rfl rfl rfl (by kernel_rfl) (by kernel_rfl) sUv
theorem aeM : AeM Tryz.prog 157 := ae_m (et := 5) Tryz.func157 (by kernel_rfl) rfl rfl rfl sUv (by kernel_rfl) octT (by kernel_rfl) (by kernel_rfl) (by kernel_rfl)
theorem tagLenM : TagLen Tryz.prog 153 := taglen_m (kt := 65) (et := 24) Tryz.func153 (by kernel_rfl) rfl rfl rfl (by kernel_rfl) (by kernel_rfl) (by kernel_rfl)
theorem tagEachM : TagEach Tryz.prog 154 := tageach_m Tryz.func154 (by kernel_rfl) rfl rfl rfl eachM aeM (by kernel_rfl)
end Go.Proofs.YtjalbgfaneemfaaGreatDoor
