/- More of the reader's methods: groups of seven bits, what is counted by them, unknown tags. -/
import Derived.Test.YthcgbekkojofpaaGreatDoorKqInst
import Derived.Test.YthcgbekkojofpaaGreatDoorKqP02
import Derived.Laws.IdiomCopy
set_option linter.unusedVariables false
set_option linter.unusedSimpArgs false
namespace Go.Proofs.YthcgbekkojofpaaGreatDoor
open Go.RowKit Go.Kq
theorem uvM : UvM Tryz.prog 105 := uv_m (et := 5) Tryz.func105 (by kernel_rfl) rfl rfl rfl (by kernel_rfl) (by kernel_rfl) (by kernel_rfl) (by kernel_rfl)
theorem mUvarint : MethV Tryz.prog 96 (.int .u32) gUv := rdruv_m (et := 5) Tryz.func96 (by kernel_rfl) rfl rfl rfl (by kernel_rfl) (by kernel_rfl) (by kernel_rfl) (by kernel_rfl) (by kernel_rfl) uvM
theorem spanM : SpanM Tryz.prog 98 := ⟨enters_of Tryz.func98 (by kernel_rfl) rfl, rdr_Span⟩
theorem setTagM : SetTagM Tryz.prog 100 := settag_m (kt := 65) (et := 24) Tryz.func100 (by kernel_rfl) rfl rfl rfl (by kernel_rfl) (by kernel_rfl) (by kernel_rfl)
theorem mTags : TagsM Tryz.prog 82 := tags_m Tryz.func82 (by kernel_rfl) rfl rfl rfl (fBi (by kernel_rfl)) (by kernel_rfl) (by kernel_rfl) mUvarint spanM setTagM
theorem ustrM : UStrM Tryz.prog 97 := ⟨enters_of Tryz.func97 (by kernel_rfl) rfl, unsafeString⟩
theorem mCompactString : MethV Tryz.prog 80 .str gCStr := cstr_m Tryz.func80 (by kernel_rfl) rfl rfl rfl (by kernel_rfl) (by kernel_rfl) mUvarint spanM (by kernel_rfl) (by kernel_rfl)
theorem mUnsafeCompactString : MethV Tryz.prog 78 .str gCStr := ucstr_m Tryz.func78 (by kernel_rfl) rfl rfl rfl (by kernel_rfl) (by kernel_rfl) mUvarint spanM ustrM
theorem mCompactArrayLen : MethV Tryz.prog 74 (.int .i32) gCALen := calen_m (et := 5) Tryz.func74 (by kernel_rfl) rfl rfl rfl (by kernel_rfl) (by kernel_rfl) (by kernel_rfl) (by kernel_rfl) (by kernel_rfl) (by kernel_rfl) (by kernel_rfl) (by kernel_rfl) mUvarint
end Go.Proofs.YthcgbekkojofpaaGreatDoor
