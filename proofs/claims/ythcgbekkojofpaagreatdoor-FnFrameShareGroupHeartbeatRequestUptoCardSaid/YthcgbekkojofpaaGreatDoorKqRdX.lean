/- More of the reader's methods: groups of seven bits, what is counted by them, unknown tags. -/
import Derived.Test.YthcgbekkojofpaaGreatDoorKqInst
import Derived.Test.YthcgbekkojofpaaGreatDoorKqP02
import Derived.Test.YthcgbekkojofpaaGreatDoorKqP01
import Derived.Laws.IdiomCopy
set_option linter.unusedVariables false
set_option linter.unusedSimpArgs false
namespace Go.Proofs.YthcgbekkojofpaaGreatDoor
open Go.RowKit Go.Kq
theorem uvM : UvM Tryz.prog 105 := uv_m (et := 5) Tryz.func105 (by kernel_rfl) rfl rfl rfl (by kernel_rfl) (by kernel_rfl) (by kernel_rfl) (by kernel_rfl)
theorem mUvarint : MethV Tryz.prog 96 (.int .u32) gUv := rdruv_m (et := 5) Tryz.func96 (by kernel_rfl) rfl rfl rfl (by kernel_rfl) (by kernel_rfl) (by kernel_rfl) (by kernel_rfl) (by kernel_rfl) uvM
theorem spanM : SpanM Tryz.prog 98 := ⟨enters_of Tryz.func98 (by kernel_rfl) rfl, rdr_Span⟩
theorem setTagM : SetTagM Tryz.prog 100 := settag_m (kt := 65) (et := 24) Tryz.func100 (by kernel_rfl) rfl rfl rfl (by kernel_rfl) (by kernel_rfl) (by kernel_rfl)
theorem mTags : TagsM Tryz.prog 82 := tags_m Tryz.func82 (by kernel_rfl) rfl rfl rfl (flatB_is (by kernel_rfl)) (by kernel_rfl) (by kernel_rfl) mUvarint spanM setTagM
theorem ustrM : UStrM Tryz.prog 97 := ⟨enters_of Tryz.func97 (by kernel_rfl) rfl, unsafeString⟩
theorem mCompactString : MethV Tryz.prog 80 .str gCStr := cstr_m Tryz.func80 (by kernel_rfl) rfl rfl rfl (by kernel_rfl) (by kernel_rfl) mUvarint spanM (by kernel_rfl) (by kernel_rfl)
theorem mUnsafeCompactString : MethV Tryz.prog 78 .str gCStr := ucstr_m Tryz.func78 (by kernel_rfl) rfl rfl rfl (by kernel_rfl) (by kernel_rfl) mUvarint spanM ustrM
theorem mCompactNullableString : MethV Tryz.prog 90 .pstr gCNStr := cnstr_m Tryz.func90 (by kernel_rfl) rfl rfl rfl (by kernel_rfl) (by kernel_rfl) mUvarint spanM (by kernel_rfl) (by kernel_rfl) (by kernel_rfl) (zeroVB_is (by kernel_rfl))
theorem mUnsafeCompactNullableString : MethV Tryz.prog 89 .pstr gCNStr := ucnstr_m Tryz.func89 (by kernel_rfl) rfl rfl rfl (by kernel_rfl) (by kernel_rfl) mUvarint spanM ustrM (by kernel_rfl) (zeroVB_is (by kernel_rfl))
theorem mNullableString : MethV Tryz.prog 92 .pstr gNStr := nstr_m Tryz.func92 (by kernel_rfl) rfl rfl rfl (by kernel_rfl) (by kernel_rfl) mInt16 spanM (by kernel_rfl) (by kernel_rfl) (by kernel_rfl) (zeroVB_is (by kernel_rfl))
theorem mUnsafeNullableString : MethV Tryz.prog 91 .pstr gNStr := unstr_m Tryz.func91 (by kernel_rfl) rfl rfl rfl (by kernel_rfl) (by kernel_rfl) mInt16 spanM ustrM (by kernel_rfl) (zeroVB_is (by kernel_rfl))
theorem mCompactArrayLen : MethV Tryz.prog 74 (.int .i32) gCALen := calen_m (et := 5) Tryz.func74 (by kernel_rfl) rfl rfl rfl (by kernel_rfl) (by kernel_rfl) (by kernel_rfl) (by kernel_rfl) (by kernel_rfl) (by kernel_rfl) (by kernel_rfl) (by kernel_rfl) mUvarint
end Go.Proofs.YthcgbekkojofpaaGreatDoor
