/- More of the reader's methods: groups of seven bits, what is counted by them, unknown tags. -/
import Derived.Test.YtdaopckebedkhaaGreatDoorRKqInst
import Derived.Test.YtdaopckebedkhaaGreatDoorRKqP02
import Derived.Test.YtdaopckebedkhaaGreatDoorRKqP03
set_option linter.unusedVariables false
set_option linter.unusedSimpArgs false
namespace Go.Proofs.YtdaopckebedkhaaGreatDoorR
open Go.RowKit Go.Kq
theorem uvM : UvM Tryz.prog 74 := uv_m (et := 5) Tryz.func74 (by kernel_rfl) rfl rfl rfl (by kernel_rfl) (by kernel_rfl) (by kernel_rfl) (by kernel_rfl)
theorem mUvarint : MethV Tryz.prog 62 (.int .u32) gUv := rdruv_m (et := 5) Tryz.func62 (by kernel_rfl) rfl rfl rfl (by kernel_rfl) (by kernel_rfl) (by kernel_rfl) (by kernel_rfl) (by kernel_rfl) uvM
theorem spanM : SpanM Tryz.prog 64 := ⟨enters_of Tryz.func64 (by kernel_rfl) rfl, rdr_Span⟩
theorem setTagM : SetTagM Tryz.prog 66 := settag_m (kt := 60) (et := 22) Tryz.func66 (by kernel_rfl) rfl rfl rfl (by kernel_rfl) (by kernel_rfl) (by kernel_rfl)
theorem mTags : TagsM Tryz.prog 47 := tags_m Tryz.func47 (by kernel_rfl) rfl rfl rfl (fBi (by kernel_rfl)) (by kernel_rfl) (by kernel_rfl) mUvarint spanM setTagM
theorem ustrM : UStrM Tryz.prog 63 := ⟨enters_of Tryz.func63 (by kernel_rfl) rfl, unsafeString⟩
theorem mCompactString : MethV Tryz.prog 45 .str gCStr := cstr_m Tryz.func45 (by kernel_rfl) rfl rfl rfl (by kernel_rfl) (by kernel_rfl) mUvarint spanM (by kernel_rfl) (by kernel_rfl)
theorem mUnsafeCompactString : MethV Tryz.prog 43 .str gCStr := ucstr_m Tryz.func43 (by kernel_rfl) rfl rfl rfl (by kernel_rfl) (by kernel_rfl) mUvarint spanM ustrM
theorem mCompactArrayLen : MethV Tryz.prog 38 (.int .i32) gCALen := calen_m (et := 5) Tryz.func38 (by kernel_rfl) rfl rfl rfl (by kernel_rfl) (by kernel_rfl) (by kernel_rfl) (by kernel_rfl) (by kernel_rfl) (by kernel_rfl) (by kernel_rfl) (by kernel_rfl) mUvarint
theorem mInt8 : MethV Tryz.prog 49 (.int .i8) gI8 := rdi8_m (et := 5) Tryz.func49 (by kernel_rfl) rfl rfl rfl (by kernel_rfl) (by kernel_rfl) (by kernel_rfl) (by kernel_rfl) (by kernel_rfl) (by kernel_rfl) (by kernel_rfl) (by kernel_rfl)
end Go.Proofs.YtdaopckebedkhaaGreatDoorR
