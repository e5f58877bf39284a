/- The appending functions of this program, each by its contract. Printed by mk_sap.py. -/
import Derived.Test.YtdigpekcblpedaaKqSrK
set_option linter.unusedVariables false
set_option linter.unusedSimpArgs false
namespace Go.Proofs.Ytdigpekcblpedaa
open Go.Kq
set_option maxRecDepth 20000 in
theorem sU16 : ApI Try.prog 100 .u16 2 := ap_u16 (te := 5) Try.func100 (by kernel_rfl) rfl rfl rfl (by kernel_rfl) (by kernel_rfl) (by kernel_rfl) octT
set_option maxRecDepth 20000 in
theorem sU32 : ApI Try.prog 92 .u32 4 := ap_u32 (te := 5) Try.func92 (by kernel_rfl) rfl rfl rfl (by kernel_rfl) (by kernel_rfl) (by kernel_rfl) octT
set_option maxRecDepth 20000 in
theorem sU64 : ApI Try.prog 93 .u64 8 := ap_u64 (te := 5) Try.func93 (by kernel_rfl) rfl rfl rfl (by kernel_rfl) (by kernel_rfl) (by kernel_rfl) octT
set_option maxRecDepth 20000 in
theorem sI16 : ApI Try.prog 79 .i16 2 := ap_i16 (te := 5) Try.func79 (by kernel_rfl) rfl rfl rfl (by kernel_rfl) (by kernel_rfl) sU16
set_option maxRecDepth 20000 in
theorem sI32 : ApI Try.prog 65 .i32 4 := ap_i32 (te := 5) Try.func65 (by kernel_rfl) rfl rfl rfl (by kernel_rfl) (by kernel_rfl) sU32
set_option maxRecDepth 20000 in
theorem sI64 : ApI Try.prog 66 .i64 8 := ap_i64 (te := 5) Try.func66 (by kernel_rfl) rfl rfl rfl (by kernel_rfl) (by kernel_rfl) sU64
set_option maxRecDepth 20000 in
theorem sLen32 : Len32M Try.prog 101 := len32_m Try.func101 (by kernel_rfl) rfl rfl rfl (by kernel_rfl) (by kernel_rfl) (by kernel_rfl) (by kernel_rfl) rfl (tabL_is (by kernel_rfl))
set_option maxRecDepth 20000 in
theorem sUvLen : UvLenM Try.prog 94 := uvlen_m Try.func94 (by kernel_rfl) rfl rfl rfl (by kernel_rfl) (by kernel_rfl) (by kernel_rfl) rfl (tabU_is (by kernel_rfl)) sLen32
set_option maxRecDepth 20000 in
theorem sUv : ApU Try.prog 67 := ap_uv (te := 5) Try.func67 (by kernel_rfl) rfl rfl rfl (by kernel_rfl) (by kernel_rfl) (by kernel_rfl) octT sUvLen
set_option maxRecDepth 20000 in
theorem sStr : ApV Try.prog 83 .str apStr := ap_str (te := 5) Try.func83 (by kernel_rfl) rfl rfl rfl (by kernel_rfl) (by kernel_rfl) (by kernel_rfl) (by kernel_rfl) octT sI16
set_option maxRecDepth 20000 in
theorem sCStr : ApV Try.prog 82 .str apCStr := ap_cstr (te := 5) Try.func82 (by kernel_rfl) rfl rfl rfl (by kernel_rfl) (by kernel_rfl) (by kernel_rfl) (by kernel_rfl) octT sUv
set_option maxRecDepth 20000 in
theorem sNStr : ApV Try.prog 88 .pstr apNStr := ap_nstr (te := 5) Try.func88 (by kernel_rfl) rfl rfl rfl (by kernel_rfl) (by kernel_rfl) sI16 sStr
set_option maxRecDepth 20000 in
theorem sCNStr : ApV Try.prog 87 .pstr apCNStr := ap_cnstr (te := 5) Try.func87 (by kernel_rfl) rfl rfl rfl (by kernel_rfl) (by kernel_rfl) sUv sCStr
set_option maxRecDepth 20000 in
theorem sLen : ApL Try.prog 81 apLen := ap_len (te := 5) Try.func81 (by kernel_rfl) rfl rfl rfl (by kernel_rfl) (by kernel_rfl) sI32
set_option maxRecDepth 20000 in
theorem sCLen : ApL Try.prog 80 apCLen := ap_clen (te := 5) Try.func80 (by kernel_rfl) rfl rfl rfl (by kernel_rfl) (by kernel_rfl) sUv
theorem aeM : AeM Try.prog 96 := ae_m (et := 5) Try.func96 (by kernel_rfl) rfl rfl rfl sUv (by kernel_rfl) octT (by kernel_rfl) (by kernel_rfl) (by kernel_rfl)
theorem tagLenM : TagLen Try.prog 68 := taglen_m (kt := 59) (et := 22) Try.func68 (by kernel_rfl) rfl rfl rfl (by kernel_rfl) (by kernel_rfl) (by kernel_rfl)
theorem tagEachM : TagEach Try.prog 69 := tageach_m Try.func69 (by kernel_rfl) rfl rfl rfl eachM aeM (by kernel_rfl)
end Go.Proofs.Ytdigpekcblpedaa
