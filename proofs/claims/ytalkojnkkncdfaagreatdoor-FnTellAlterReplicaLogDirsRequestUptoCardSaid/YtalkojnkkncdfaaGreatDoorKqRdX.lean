/- More of the reader's methods: groups of seven bits, what is counted by them, unknown tags. -/
import Derived.Test.YtalkojnkkncdfaaGreatDoorKqInst
import Derived.Test.YtalkojnkkncdfaaGreatDoorKqP02
import Derived.Test.YtalkojnkkncdfaaGreatDoorKqP03
import Derived.Laws.IdiomCopy
set_option linter.unusedVariables false
set_option linter.unusedSimpArgs false
namespace Go.Proofs.YtalkojnkkncdfaaGreatDoor
open Go.RowKit Go.Kq
theorem uvM : UvM Tryz.prog 145 := uv_m (et := 5) Tryz.func145 (by kernel_rfl) rfl rfl rfl (by kernel_rfl) (by kernel_rfl) (by kernel_rfl) (by kernel_rfl)
theorem mUvarint : MethV Tryz.prog 129 (.int .u32) gUv := rdruv_m (et := 5) Tryz.func129 (by kernel_rfl) rfl rfl rfl (by kernel_rfl) (by kernel_rfl) (by kernel_rfl) (by kernel_rfl) (by kernel_rfl) uvM
theorem spanM : SpanM Tryz.prog 130 := ⟨enters_of Tryz.func130 (by kernel_rfl) rfl, rdr_Span⟩
theorem setTagM : SetTagM Tryz.prog 134 := settag_m (kt := 64) (et := 22) Tryz.func134 (by kernel_rfl) rfl rfl rfl (by kernel_rfl) (by kernel_rfl) (by kernel_rfl)
theorem mTags : TagsM Tryz.prog 104 := tags_m Tryz.func104 (by kernel_rfl) rfl rfl rfl (flatB_is (by kernel_rfl)) (by kernel_rfl) (by kernel_rfl) mUvarint spanM setTagM
theorem ustrM : UStrM Tryz.prog 133 := ⟨enters_of Tryz.func133 (by kernel_rfl) rfl, unsafeString⟩
theorem mCompactString : MethV Tryz.prog 114 .str gCStr := cstr_m Tryz.func114 (by kernel_rfl) rfl rfl rfl (by kernel_rfl) (by kernel_rfl) mUvarint spanM (by kernel_rfl) (by kernel_rfl)
theorem mUnsafeCompactString : MethV Tryz.prog 112 .str gCStr := ucstr_m Tryz.func112 (by kernel_rfl) rfl rfl rfl (by kernel_rfl) (by kernel_rfl) mUvarint spanM ustrM
theorem mCompactArrayLen : MethV Tryz.prog 91 (.int .i32) gCALen := calen_m (et := 5) Tryz.func91 (by kernel_rfl) rfl rfl rfl (by kernel_rfl) (by kernel_rfl) (by kernel_rfl) (by kernel_rfl) (by kernel_rfl) (by kernel_rfl) (by kernel_rfl) (by kernel_rfl) mUvarint
end Go.Proofs.YtalkojnkkncdfaaGreatDoor
