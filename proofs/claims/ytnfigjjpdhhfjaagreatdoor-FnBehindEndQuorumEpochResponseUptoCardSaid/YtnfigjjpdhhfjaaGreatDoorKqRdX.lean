/- More of the reader's methods: groups of seven bits, what is counted by them, unknown tags. -/
import Derived.Test.YtnfigjjpdhhfjaaGreatDoorKqInst
import Derived.Test.YtnfigjjpdhhfjaaGreatDoorKqP02
import Derived.Test.YtnfigjjpdhhfjaaGreatDoorKqP01
import Derived.Laws.IdiomCopy
set_option linter.unusedVariables false
set_option linter.unusedSimpArgs false
namespace Go.Proofs.YtnfigjjpdhhfjaaGreatDoor
open Go.RowKit Go.Kq
theorem uvM : UvM Tryz.prog 139 := uv_m (et := 5) Tryz.func139 (by kernel_rfl) rfl rfl rfl (by kernel_rfl) (by kernel_rfl) (by kernel_rfl) (by kernel_rfl)
theorem mUvarint : MethV Tryz.prog 109 (.int .u32) gUv := rdruv_m (et := 5) Tryz.func109 (by kernel_rfl) rfl rfl rfl (by kernel_rfl) (by kernel_rfl) (by kernel_rfl) (by kernel_rfl) (by kernel_rfl) uvM
theorem spanM : SpanM Tryz.prog 111 := ⟨enters_of Tryz.func111 (by kernel_rfl) rfl, rdr_Span⟩
theorem setTagM : SetTagM Tryz.prog 110 := settag_m (kt := 59) (et := 22) Tryz.func110 (by kernel_rfl) rfl rfl rfl (by kernel_rfl) (by kernel_rfl) (by kernel_rfl)
theorem mTags : TagsM Tryz.prog 108 := tags_m Tryz.func108 (by kernel_rfl) rfl rfl rfl (fBi (by kernel_rfl)) (by kernel_rfl) (by kernel_rfl) mUvarint spanM setTagM
theorem ustrM : UStrM Tryz.prog 137 := ⟨enters_of Tryz.func137 (by kernel_rfl) rfl, unsafeString⟩
theorem mCompactString : MethV Tryz.prog 104 .str gCStr := cstr_m Tryz.func104 (by kernel_rfl) rfl rfl rfl (by kernel_rfl) (by kernel_rfl) mUvarint spanM (by kernel_rfl) (by kernel_rfl)
theorem mUnsafeCompactString : MethV Tryz.prog 102 .str gCStr := ucstr_m Tryz.func102 (by kernel_rfl) rfl rfl rfl (by kernel_rfl) (by kernel_rfl) mUvarint spanM ustrM
theorem mCompactArrayLen : MethV Tryz.prog 97 (.int .i32) gCALen := calen_m (et := 5) Tryz.func97 (by kernel_rfl) rfl rfl rfl (by kernel_rfl) (by kernel_rfl) (by kernel_rfl) (by kernel_rfl) (by kernel_rfl) (by kernel_rfl) (by kernel_rfl) (by kernel_rfl) mUvarint
end Go.Proofs.YtnfigjjpdhhfjaaGreatDoor
