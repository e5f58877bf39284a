/- The appending functions of this program, each by its contract. Printed by mk_sap.py. -/
import Derived.Test.YtokkeelmccdcaaaGreatDoorKqBeh
set_option linter.unusedVariables false
set_option linter.unusedSimpArgs false
namespace Go.Proofs.YtokkeelmccdcaaaGreatDoor
open Go.Kq
set_option maxRecDepth 20000 in
theorem sU16 : ApI Tryz.prog 111 .u16 2 := ap_u16 (te := 5) Tryz.func111 (by kernel_rfl) rfl rfl rfl (by kernel_rfl) (by kernel_rfl) (by kernel_rfl) octT
set_option maxRecDepth 20000 in
theorem sU32 : ApI Tryz.prog 110 .u32 4 := ap_u32 (te := 5) Tryz.func110 (by kernel_rfl) rfl rfl rfl (by kernel_rfl) (by kernel_rfl) (by kernel_rfl) octT
set_option maxRecDepth 20000 in
theorem sU64 : ApI Tryz.prog 116 .u64 8 := ap_u64 (te := 5) Tryz.func116 (by kernel_rfl) rfl rfl rfl (by kernel_rfl) (by kernel_rfl) (by kernel_rfl) octT
set_option maxRecDepth 20000 in
theorem sI16 : ApI Tryz.prog 57 .i16 2 := ap_i16 (te := 5) Tryz.func57 (by kernel_rfl) rfl rfl rfl (by kernel_rfl) (by kernel_rfl) sU16
set_option maxRecDepth 20000 in
theorem sI32 : ApI Tryz.prog 56 .i32 4 := ap_i32 (te := 5) Tryz.func56 (by kernel_rfl) rfl rfl rfl (by kernel_rfl) (by kernel_rfl) sU32
set_option maxRecDepth 20000 in
theorem sI64 : ApI Tryz.prog 68 .i64 8 := ap_i64 (te := 5) Tryz.func68 (by kernel_rfl) rfl rfl rfl (by kernel_rfl) (by kernel_rfl) sU64
set_option maxRecDepth 20000 in
theorem sLen32 : Len32M Tryz.prog 130 := len32_m Tryz.func130 (by kernel_rfl) rfl rfl rfl (by kernel_rfl) (by kernel_rfl) (by kernel_rfl) (by kernel_rfl) rfl (tabL_is (by kernel_rfl))
set_option maxRecDepth 20000 in
theorem sUvLen : UvLenM Tryz.prog 112 := uvlen_m Tryz.func112 (by kernel_rfl) rfl rfl rfl (by kernel_rfl) (by kernel_rfl) (by kernel_rfl) rfl (tabU_is (by kernel_rfl)) sLen32
set_option maxRecDepth 20000 in
theorem sUv : ApU Tryz.prog 63 := ap_uv (te := 5) Tryz.func63 (by kernel_rfl) rfl rfl rfl (by kernel_rfl) (by kernel_rfl) (by kernel_rfl) octT sUvLen
set_option maxRecDepth 20000 in
theorem sStr : ApV Tryz.prog 70 .str apStr := ap_str (te := 5) Tryz.func70 (by kernel_rfl) rfl rfl rfl (by kernel_rfl) (by kernel_rfl) (by kernel_rfl) (by kernel_rfl) octT sI16
set_option maxRecDepth 20000 in
theorem sCStr : ApV Tryz.prog 69 .str apCStr := ap_cstr (te := 5) Tryz.func69 (by kernel_rfl) rfl rfl rfl (by kernel_rfl) (by kernel_rfl) (by kernel_rfl) (by kernel_rfl) octT sUv
set_option maxRecDepth 20000 in
theorem sNStr : ApV Tryz.prog 59 .pstr apNStr := ap_nstr (te := 5) Tryz.func59 (by kernel_rfl) rfl rfl rfl (by kernel_rfl) (by kernel_rfl) sI16 sStr
set_option maxRecDepth 20000 in
theorem sCNStr : ApV Tryz.prog 58 .pstr apCNStr := ap_cnstr (te := 5) Tryz.func58 (by kernel_rfl) rfl rfl rfl (by kernel_rfl) (by kernel_rfl) sUv sCStr
set_option maxRecDepth 20000 in
theorem sBytes : ApV Tryz.prog 115 .bytes apBytes := ap_bytes (te := 5) Tryz.func115 (by kernel_rfl) rfl rfl rfl (by kernel_rfl) (by kernel_rfl) (by kernel_rfl) (by kernel_rfl) octT sI32
set_option maxRecDepth 20000 in
theorem sCBytes : ApV Tryz.prog 114 .bytes apCBytes := ap_cbytes (te := 5) Tryz.func114 (by kernel_rfl) rfl rfl rfl (by kernel_rfl) (by kernel_rfl) (by kernel_rfl) (by kernel_rfl) octT sUv
set_option maxRecDepth 20000 in
theorem sNBytes : ApV Tryz.prog 67 .bytes apNBytes := ap_nbytes (te := 5) Tryz.func67 (by kernel_rfl) rfl rfl rfl (by kernel_rfl) sI32 sBytes
set_option maxRecDepth 20000 in
theorem sCNBytes : ApV Tryz.prog 66 .bytes apCNBytes := ap_cnbytes (te := 5) Tryz.func66 (by kernel_rfl) rfl rfl rfl (by kernel_rfl) sUv sCBytes
set_option maxRecDepth 20000 in
theorem sLen : ApL Tryz.prog 61 apLen := ap_len (te := 5) Tryz.func61 (by kernel_rfl) rfl rfl rfl (by kernel_rfl) (by kernel_rfl) sI32
set_option maxRecDepth 20000 in
theorem sCLen : ApL Tryz.prog 60 apCLen := ap_clen (te := 5) Tryz.func60 (by kernel_rfl) rfl rfl rfl (by kernel_rfl) (by kernel_rfl) sUv
theorem aeM : AeM Tryz.prog 113 := ae_m (et := 5) Tryz.func113 (by kernel_rfl) rfl rfl rfl sUv (by kernel_rfl) octT (by kernel_rfl) (by kernel_rfl) (by kernel_rfl)
theorem tagLenM : TagLen Tryz.prog 64 := taglen_m (kt := 69) (et := 22) Tryz.func64 (by kernel_rfl) rfl rfl rfl (by kernel_rfl) (by kernel_rfl) (by kernel_rfl)
theorem tagEachM : TagEach Tryz.prog 65 := tageach_m Tryz.func65 (by kernel_rfl) rfl rfl rfl eachM aeM (by kernel_rfl)
end Go.Proofs.YtokkeelmccdcaaaGreatDoor
