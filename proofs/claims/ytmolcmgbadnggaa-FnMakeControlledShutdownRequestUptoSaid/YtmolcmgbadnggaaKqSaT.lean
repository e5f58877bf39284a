/- The appending functions of this program, each by its contract. Printed by mk_sap.py. -/
import Derived.Test.YtmolcmgbadnggaaKqSrK
set_option linter.unusedVariables false
set_option linter.unusedSimpArgs false
namespace Go.Proofs.Ytmolcmgbadnggaa
open Go.Kq
set_option maxRecDepth 20000 in
theorem sU32 : ApI Try.prog 93 .u32 4 := ap_u32 (te := 5) Try.func93 (by kernel_rfl) rfl rfl rfl (by kernel_rfl) (by kernel_rfl) (by kernel_rfl) octT
set_option maxRecDepth 20000 in
theorem sU64 : ApI Try.prog 94 .u64 8 := ap_u64 (te := 5) Try.func94 (by kernel_rfl) rfl rfl rfl (by kernel_rfl) (by kernel_rfl) (by kernel_rfl) octT
set_option maxRecDepth 20000 in
theorem sI32 : ApI Try.prog 65 .i32 4 := ap_i32 (te := 5) Try.func65 (by kernel_rfl) rfl rfl rfl (by kernel_rfl) (by kernel_rfl) sU32
set_option maxRecDepth 20000 in
theorem sI64 : ApI Try.prog 71 .i64 8 := ap_i64 (te := 5) Try.func71 (by kernel_rfl) rfl rfl rfl (by kernel_rfl) (by kernel_rfl) sU64
set_option maxRecDepth 20000 in
theorem sLen32 : Len32M Try.prog 101 := len32_m Try.func101 (by kernel_rfl) rfl rfl rfl (by kernel_rfl) (by kernel_rfl) (by kernel_rfl) (by kernel_rfl) rfl (tabL_is (by kernel_rfl))
set_option maxRecDepth 20000 in
theorem sUvLen : UvLenM Try.prog 95 := uvlen_m Try.func95 (by kernel_rfl) rfl rfl rfl (by kernel_rfl) (by kernel_rfl) (by kernel_rfl) rfl (tabU_is (by kernel_rfl)) sLen32
set_option maxRecDepth 20000 in
theorem sUv : ApU Try.prog 72 := ap_uv (te := 5) Try.func72 (by kernel_rfl) rfl rfl rfl (by kernel_rfl) (by kernel_rfl) (by kernel_rfl) octT sUvLen
theorem aeM : AeM Try.prog 97 := ae_m (et := 5) Try.func97 (by kernel_rfl) rfl rfl rfl sUv (by kernel_rfl) octT (by kernel_rfl) (by kernel_rfl) (by kernel_rfl)
theorem tagLenM : TagLen Try.prog 73 := taglen_m (kt := 53) (et := 22) Try.func73 (by kernel_rfl) rfl rfl rfl (by kernel_rfl) (by kernel_rfl) (by kernel_rfl)
theorem tagEachM : TagEach Try.prog 74 := tageach_m Try.func74 (by kernel_rfl) rfl rfl rfl eachM aeM (by kernel_rfl)
end Go.Proofs.Ytmolcmgbadnggaa
