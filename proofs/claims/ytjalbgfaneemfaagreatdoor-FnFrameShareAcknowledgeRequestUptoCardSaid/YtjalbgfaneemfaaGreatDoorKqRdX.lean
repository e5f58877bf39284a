/- More of the reader's methods: groups of seven bits, what is counted by them, unknown tags. -/
import Derived.Test.YtjalbgfaneemfaaGreatDoorKqInst
import Derived.Test.YtjalbgfaneemfaaGreatDoorKqP02
import Derived.Test.YtjalbgfaneemfaaGreatDoorKqP01
set_option linter.unusedVariables false
set_option linter.unusedSimpArgs false
namespace Go.Proofs.YtjalbgfaneemfaaGreatDoor
open Go.RowKit Go.Kq
theorem uvM : UvM Tryz.prog 125 := uv_m (et := 5) Tryz.func125 (by kernel_rfl) rfl rfl rfl (by kernel_rfl) (by kernel_rfl) (by kernel_rfl) (by kernel_rfl)
theorem mUvarint : MethV Tryz.prog 117 (.int .u32) gUv := rdruv_m (et := 5) Tryz.func117 (by kernel_rfl) rfl rfl rfl (by kernel_rfl) (by kernel_rfl) (by kernel_rfl) (by kernel_rfl) (by kernel_rfl) uvM
theorem spanM : SpanM Tryz.prog 116 := ⟨enters_of Tryz.func116 (by kernel_rfl) rfl, rdr_Span⟩
theorem setTagM : SetTagM Tryz.prog 120 := settag_m (kt := 65) (et := 24) Tryz.func120 (by kernel_rfl) rfl rfl rfl (by kernel_rfl) (by kernel_rfl) (by kernel_rfl)
theorem mTags : TagsM Tryz.prog 93 := tags_m Tryz.func93 (by kernel_rfl) rfl rfl rfl (fBi (by kernel_rfl)) (by kernel_rfl) (by kernel_rfl) mUvarint spanM setTagM
theorem ustrM : UStrM Tryz.prog 118 := ⟨enters_of Tryz.func118 (by kernel_rfl) rfl, unsafeString⟩
theorem mCompactNullableString : MethV Tryz.prog 101 .pstr gCNStr := cnstr_m Tryz.func101 (by kernel_rfl) rfl rfl rfl (by kernel_rfl) (by kernel_rfl) mUvarint spanM (by kernel_rfl) (by kernel_rfl) (by kernel_rfl) (zeroVB_is (by kernel_rfl))
theorem mUnsafeCompactNullableString : MethV Tryz.prog 100 .pstr gCNStr := ucnstr_m Tryz.func100 (by kernel_rfl) rfl rfl rfl (by kernel_rfl) (by kernel_rfl) mUvarint spanM ustrM (by kernel_rfl) (zeroVB_is (by kernel_rfl))
theorem mNullableString : MethV Tryz.prog 103 .pstr gNStr := nstr_m Tryz.func103 (by kernel_rfl) rfl rfl rfl (by kernel_rfl) (by kernel_rfl) mInt16 spanM (by kernel_rfl) (by kernel_rfl) (by kernel_rfl) (zeroVB_is (by kernel_rfl))
theorem mUnsafeNullableString : MethV Tryz.prog 102 .pstr gNStr := unstr_m Tryz.func102 (by kernel_rfl) rfl rfl rfl (by kernel_rfl) (by kernel_rfl) mInt16 spanM ustrM (by kernel_rfl) (zeroVB_is (by kernel_rfl))
theorem mCompactArrayLen : MethV Tryz.prog 82 (.int .i32) gCALen := calen_m (et := 5) Tryz.func82 (by kernel_rfl) rfl rfl rfl (by kernel_rfl) (by kernel_rfl) (by kernel_rfl) (by kernel_rfl) (by kernel_rfl) (by kernel_rfl) (by kernel_rfl) (by kernel_rfl) mUvarint
theorem mUuid : UuidM Tryz.prog 80 := uuid_m (et := 5) Tryz.func80 (by kernel_rfl) rfl rfl rfl (by kernel_rfl) (by kernel_rfl) (rowB_is (by kernel_rfl)) (by kernel_rfl) spanM
theorem uuidT : RowT Tryz.prog 69 zU := rowB_is (by kernel_rfl)
theorem mBool : MethV Tryz.prog 81 .bool gBool := rdbool_m (et := 5) Tryz.func81 (by kernel_rfl) rfl rfl rfl (by kernel_rfl) (by kernel_rfl) (by kernel_rfl) (by kernel_rfl) (by kernel_rfl) (by kernel_rfl)
theorem mInt8 : MethV Tryz.prog 108 (.int .i8) gI8 := rdi8_m (et := 5) Tryz.func108 (by kernel_rfl) rfl rfl rfl (by kernel_rfl) (by kernel_rfl) (by kernel_rfl) (by kernel_rfl) (by kernel_rfl) (by kernel_rfl) (by kernel_rfl) (by kernel_rfl)
end Go.Proofs.YtjalbgfaneemfaaGreatDoor
