/- More of the reader's methods: groups of seven bits, what is counted by them, unknown tags. -/
import Derived.Test.YtjalbgfaneemfaaGreatDoorKqInst
import Derived.Test.YtjalbgfaneemfaaGreatDoorKqP02
set_option linter.unusedVariables false
set_option linter.unusedSimpArgs false
namespace Go.Proofs.YtjalbgfaneemfaaGreatDoor
open Go.RowKit Go.Kq
theorem uvM : UvM Tryz.prog 125 := uv_m (et := 5) Tryz.func125 (by kernel_rfl) rfl rfl rfl (by kernel_rfl) (by kernel_rfl) (by kernel_rfl) (by kernel_rfl)
theorem mUvarint : MethV Tryz.prog 117 (.int .u32) gUv := rdruv_m (et := 5) Tryz.func117 (by kernel_rfl) rfl rfl rfl (by kernel_rfl) (by kernel_rfl) (by kernel_rfl) (by kernel_rfl) (by kernel_rfl) uvM
theorem spanM : SpanM Tryz.prog 116 := ⟨enters_of Tryz.func116 (by kernel_rfl) rfl, rdr_Span⟩
theorem setTagM : SetTagM Tryz.prog 120 := settag_m (kt := 65) (et := 24) Tryz.func120 (by kernel_rfl) rfl rfl rfl (by kernel_rfl) (by kernel_rfl) (by kernel_rfl)
theorem mTags : TagsM Tryz.prog 93 := tags_m Tryz.func93 (by kernel_rfl) rfl rfl rfl (flatB_is (by kernel_rfl)) (by kernel_rfl) (by kernel_rfl) mUvarint spanM setTagM
theorem ustrM : UStrM Tryz.prog 118 := ⟨enters_of Tryz.func118 (by kernel_rfl) rfl, unsafeString⟩
theorem mCompactString : MethV Tryz.prog 89 .str gCStr := cstr_m Tryz.func89 (by kernel_rfl) rfl rfl rfl (by kernel_rfl) (by kernel_rfl) mUvarint spanM (by kernel_rfl) (by kernel_rfl)
theorem mUnsafeCompactString : MethV Tryz.prog 87 .str gCStr := ucstr_m Tryz.func87 (by kernel_rfl) rfl rfl rfl (by kernel_rfl) (by kernel_rfl) mUvarint spanM ustrM
theorem mCompactArrayLen : MethV Tryz.prog 82 (.int .i32) gCALen := calen_m (et := 5) Tryz.func82 (by kernel_rfl) rfl rfl rfl (by kernel_rfl) (by kernel_rfl) (by kernel_rfl) (by kernel_rfl) (by kernel_rfl) (by kernel_rfl) (by kernel_rfl) (by kernel_rfl) mUvarint
theorem mBool : MethV Tryz.prog 81 .bool gBool := rdbool_m (et := 5) Tryz.func81 (by kernel_rfl) rfl rfl rfl (by kernel_rfl) (by kernel_rfl) (by kernel_rfl) (by kernel_rfl) (by kernel_rfl) (by kernel_rfl)
end Go.Proofs.YtjalbgfaneemfaaGreatDoor
