/- The appending functions of this program, each by its contract. Printed by mk_sap.py. -/
import Derived.Test.YtehjpmchanlebaaGreatDoorKqBeh
set_option linter.unusedVariables false
set_option linter.unusedSimpArgs false
namespace Go.Proofs.YtehjpmchanlebaaGreatDoor
open Go.Kq
set_option maxRecDepth 20000 in
theorem sU16 : ApI Tryz.prog 70 .u16 2 := ap_u16 (te := 5) Tryz.func70 (by kernel_rfl) rfl rfl rfl (by kernel_rfl) (by kernel_rfl) (by kernel_rfl) octT
set_option maxRecDepth 20000 in
theorem sU32 : ApI Tryz.prog 71 .u32 4 := ap_u32 (te := 5) Tryz.func71 (by kernel_rfl) rfl rfl rfl (by kernel_rfl) (by kernel_rfl) (by kernel_rfl) octT
set_option maxRecDepth 20000 in
theorem sI16 : ApI Tryz.prog 39 .i16 2 := ap_i16 (te := 5) Tryz.func39 (by kernel_rfl) rfl rfl rfl (by kernel_rfl) (by kernel_rfl) sU16
set_option maxRecDepth 20000 in
theorem sI32 : ApI Tryz.prog 44 .i32 4 := ap_i32 (te := 5) Tryz.func44 (by kernel_rfl) rfl rfl rfl (by kernel_rfl) (by kernel_rfl) sU32
set_option maxRecDepth 20000 in
theorem sLen32 : Len32M Tryz.prog 85 := len32_m Tryz.func85 (by kernel_rfl) rfl rfl rfl (by kernel_rfl) (by kernel_rfl) (by kernel_rfl) (by kernel_rfl) rfl (tabL_is (by kernel_rfl))
set_option maxRecDepth 20000 in
theorem sUvLen : UvLenM Tryz.prog 72 := uvlen_m Tryz.func72 (by kernel_rfl) rfl rfl rfl (by kernel_rfl) (by kernel_rfl) (by kernel_rfl) rfl (tabU_is (by kernel_rfl)) sLen32
set_option maxRecDepth 20000 in
theorem sUv : ApU Tryz.prog 45 := ap_uv (te := 5) Tryz.func45 (by kernel_rfl) rfl rfl rfl (by kernel_rfl) (by kernel_rfl) (by kernel_rfl) octT sUvLen
set_option maxRecDepth 20000 in
theorem sStr : ApV Tryz.prog 43 .str apStr := ap_str (te := 5) Tryz.func43 (by kernel_rfl) rfl rfl rfl (by kernel_rfl) (by kernel_rfl) (by kernel_rfl) (by kernel_rfl) octT sI16
set_option maxRecDepth 20000 in
theorem sCStr : ApV Tryz.prog 42 .str apCStr := ap_cstr (te := 5) Tryz.func42 (by kernel_rfl) rfl rfl rfl (by kernel_rfl) (by kernel_rfl) (by kernel_rfl) (by kernel_rfl) octT sUv
set_option maxRecDepth 20000 in
theorem sNStr : ApV Tryz.prog 51 .pstr apNStr := ap_nstr (te := 5) Tryz.func51 (by kernel_rfl) rfl rfl rfl (by kernel_rfl) (by kernel_rfl) sI16 sStr
set_option maxRecDepth 20000 in
theorem sCNStr : ApV Tryz.prog 50 .pstr apCNStr := ap_cnstr (te := 5) Tryz.func50 (by kernel_rfl) rfl rfl rfl (by kernel_rfl) (by kernel_rfl) sUv sCStr
set_option maxRecDepth 20000 in
theorem sLen : ApL Tryz.prog 41 apLen := ap_len (te := 5) Tryz.func41 (by kernel_rfl) rfl rfl rfl (by kernel_rfl) (by kernel_rfl) sI32
set_option maxRecDepth 20000 in
theorem sCLen : ApL Tryz.prog 40 apCLen := ap_clen (te := 5) Tryz.func40 (by kernel_rfl) rfl rfl rfl (by kernel_rfl) (by kernel_rfl) sUv
theorem aeM : AeM Tryz.prog 74 := ae_m (et := 5) Tryz.func74 (by kernel_rfl) rfl rfl rfl sUv (by kernel_rfl) octT (by kernel_rfl) (by kernel_rfl) (by kernel_rfl)
theorem tagLenM : TagLen Tryz.prog 46 := taglen_m (kt := 55) (et := 22) Tryz.func46 (by kernel_rfl) rfl rfl rfl (by kernel_rfl) (by kernel_rfl) (by kernel_rfl)
theorem tagEachM : TagEach Tryz.prog 47 := tageach_m Tryz.func47 (by kernel_rfl) rfl rfl rfl eachM aeM (by kernel_rfl)
end Go.Proofs.YtehjpmchanlebaaGreatDoor
