/- The appending functions of this program, each by its contract. Printed by mk_sap.py. -/
import Derived.Test.YtmolcmgbadnggaaKqBeK
set_option linter.unusedVariables false
set_option linter.unusedSimpArgs false
namespace Go.Proofs.Ytmolcmgbadnggaa
open Go.Kq
set_option maxRecDepth 20000 in
theorem sU16 : ApI Try.prog 92 .u16 2 := ap_u16 (te := 5) Try.func92 (by kernel_rfl) rfl rfl rfl (by kernel_rfl) (by kernel_rfl) (by kernel_rfl) octT
set_option maxRecDepth 20000 in
theorem sU32 : ApI Try.prog 93 .u32 4 := ap_u32 (te := 5) Try.func93 (by kernel_rfl) rfl rfl rfl (by kernel_rfl) (by kernel_rfl) (by kernel_rfl) octT
set_option maxRecDepth 20000 in
theorem sI16 : ApI Try.prog 63 .i16 2 := ap_i16 (te := 5) Try.func63 (by kernel_rfl) rfl rfl rfl (by kernel_rfl) (by kernel_rfl) sU16
set_option maxRecDepth 20000 in
theorem sI32 : ApI Try.prog 65 .i32 4 := ap_i32 (te := 5) Try.func65 (by kernel_rfl) rfl rfl rfl (by kernel_rfl) (by kernel_rfl) sU32
set_option maxRecDepth 20000 in
theorem sStr : ApV Try.prog 64 .str apStr := ap_str (te := 5) Try.func64 (by kernel_rfl) rfl rfl rfl (by kernel_rfl) (by kernel_rfl) (by kernel_rfl) (by kernel_rfl) octT sI16
end Go.Proofs.Ytmolcmgbadnggaa
