/- The appending functions of this program, each by its contract. Printed by mk_sap.py. -/
import Derived.Test.YthcgbekkojofpaaGreatDoorKqBeh
set_option linter.unusedVariables false
set_option linter.unusedSimpArgs false
namespace Go.Proofs.YthcgbekkojofpaaGreatDoor
open Go.Kq
set_option maxRecDepth 20000 in
theorem sU16 : ApI Tryz.prog 101 .u16 2 := ap_u16 (te := 5) Tryz.func101 (by kernel_rfl) rfl rfl rfl (by kernel_rfl) (by kernel_rfl) (by kernel_rfl) octT
set_option maxRecDepth 20000 in
theorem sU32 : ApI Tryz.prog 102 .u32 4 := ap_u32 (te := 5) Tryz.func102 (by kernel_rfl) rfl rfl rfl (by kernel_rfl) (by kernel_rfl) (by kernel_rfl) octT
set_option maxRecDepth 20000 in
theorem sI16 : ApI Tryz.prog 84 .i16 2 := ap_i16 (te := 5) Tryz.func84 (by kernel_rfl) rfl rfl rfl (by kernel_rfl) (by kernel_rfl) sU16
set_option maxRecDepth 20000 in
theorem sI32 : ApI Tryz.prog 85 .i32 4 := ap_i32 (te := 5) Tryz.func85 (by kernel_rfl) rfl rfl rfl (by kernel_rfl) (by kernel_rfl) sU32
set_option maxRecDepth 20000 in
theorem sLen32 : Len32M Tryz.prog 136 := len32_m Tryz.func136 (by kernel_rfl) rfl rfl rfl (by kernel_rfl) (by kernel_rfl) (by kernel_rfl) (by kernel_rfl) rfl (tabL_is (by kernel_rfl))
set_option maxRecDepth 20000 in
theorem sUvLen : UvLenM Tryz.prog 133 := uvlen_m Tryz.func133 (by kernel_rfl) rfl rfl rfl (by kernel_rfl) (by kernel_rfl) (by kernel_rfl) rfl (tabU_is (by kernel_rfl)) sLen32
set_option maxRecDepth 20000 in
theorem sUv : ApU Tryz.prog 130 := ap_uv (te := 5) Tryz.func130 (by kernel_rfl) rfl rfl rfl (by kernel_rfl) (by kernel_rfl) (by kernel_rfl) octT sUvLen
set_option maxRecDepth 20000 in
theorem sStr : ApV Tryz.prog 103 .str apStr := ap_str (te := 5) Tryz.func103 (by kernel_rfl) rfl rfl rfl (by kernel_rfl) (by kernel_rfl) (by kernel_rfl) (by kernel_rfl) octT sI16
set_option maxRecDepth 20000 in
theorem sCStr : ApV Tryz.prog 129 .str apCStr := ap_cstr (te := 5) Tryz.func129 (by kernel_rfl) rfl rfl rfl (by kernel_rfl) (by kernel_rfl) (by kernel_rfl) (by kernel_rfl) octT sUv
set_option maxRecDepth 20000 in
theorem sNStr : ApV Tryz.prog 86 .pstr apNStr := ap_nstr (te := 5) Tryz.func86 (by kernel_rfl) rfl rfl rfl (by kernel_rfl) (by kernel_rfl) sI16 sStr
set_option maxRecDepth 20000 in
theorem sLen : ApL Tryz.prog 128 apLen := ap_len (te := 5) Tryz.func128 (by kernel_rfl) rfl rfl rfl (by kernel_rfl) (by kernel_rfl) sI32
set_option maxRecDepth 20000 in
theorem sCLen : ApL Tryz.prog 127 apCLen := ap_clen (te := 5) Tryz.func127 (by kernel_rfl) rfl rfl rfl (by kernel_rfl) (by kernel_rfl) sUv
theorem aeM : AeM Tryz.prog 135 := ae_m (et := 5) Tryz.func135 (by kernel_rfl) rfl rfl rfl sUv (by kernel_rfl) octT (by kernel_rfl) (by kernel_rfl) (by kernel_rfl)
theorem tagLenM : TagLen Tryz.prog 131 := taglen_m (kt := 65) (et := 24) Tryz.func131 (by kernel_rfl) rfl rfl rfl (by kernel_rfl) (by kernel_rfl) (by kernel_rfl)
theorem tagEachM : TagEach Tryz.prog 132 := tageach_m Tryz.func132 (by kernel_rfl) rfl rfl rfl eachM aeM (by kernel_rfl)
end Go.Proofs.YthcgbekkojofpaaGreatDoor
