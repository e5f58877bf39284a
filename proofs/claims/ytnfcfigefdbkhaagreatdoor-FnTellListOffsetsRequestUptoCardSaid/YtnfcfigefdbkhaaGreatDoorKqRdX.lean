/- More of the reader's methods: groups of seven bits, what is counted by them, unknown tags. -/
import Derived.Test.YtnfcfigefdbkhaaGreatDoorKqInst
import Derived.Test.YtnfcfigefdbkhaaGreatDoorKqP03
import Derived.Test.YtnfcfigefdbkhaaGreatDoorKqP02
set_option linter.unusedVariables false
set_option linter.unusedSimpArgs false
namespace Go.Proofs.YtnfcfigefdbkhaaGreatDoor
open Go.RowKit Go.Kq
theorem uvM:UvM Tryz.prog 133:=uv_m (et:=5) Tryz.func133 (by kernel_rfl) rfl rfl rfl (by kernel_rfl) (by kernel_rfl) (by kernel_rfl) (by kernel_rfl)
theorem mUvarint:MethV Tryz.prog 115 (.int .u32) gUv:=rdruv_m (et:=5) Tryz.func115 (by kernel_rfl) rfl rfl rfl (by kernel_rfl) (by kernel_rfl) (by kernel_rfl) (by kernel_rfl) (by kernel_rfl) uvM
theorem spanM:SpanM Tryz.prog 117:=⟨enters_of Tryz.func117 (by kernel_rfl) rfl,rdr_Span⟩
theorem setTagM:SetTagM Tryz.prog 116:=settag_m (kt:=64) (et:=22) Tryz.func116 (by kernel_rfl) rfl rfl rfl (by kernel_rfl) (by kernel_rfl) (by kernel_rfl)
theorem mTags:TagsM Tryz.prog 91:=tags_m Tryz.func91 (by kernel_rfl) rfl rfl rfl (fBi (by kernel_rfl)) (by kernel_rfl) (by kernel_rfl) mUvarint spanM setTagM
theorem ustrM:UStrM Tryz.prog 124:=⟨enters_of Tryz.func124 (by kernel_rfl) rfl,unsafeString⟩
theorem mCompactString:MethV Tryz.prog 87 .str gCStr:=cstr_m Tryz.func87 (by kernel_rfl) rfl rfl rfl (by kernel_rfl) (by kernel_rfl) mUvarint spanM (by kernel_rfl) (by kernel_rfl)
theorem mUnsafeCompactString:MethV Tryz.prog 85 .str gCStr:=ucstr_m Tryz.func85 (by kernel_rfl) rfl rfl rfl (by kernel_rfl) (by kernel_rfl) mUvarint spanM ustrM
theorem mCompactArrayLen:MethV Tryz.prog 80 (.int .i32) gCALen:=calen_m (et:=5) Tryz.func80 (by kernel_rfl) rfl rfl rfl (by kernel_rfl) (by kernel_rfl) (by kernel_rfl) (by kernel_rfl) (by kernel_rfl) (by kernel_rfl) (by kernel_rfl) (by kernel_rfl) mUvarint
theorem mInt8:MethV Tryz.prog 79 (.int .i8) gI8:=rdi8_m (et:=5) Tryz.func79 (by kernel_rfl) rfl rfl rfl (by kernel_rfl) (by kernel_rfl) (by kernel_rfl) (by kernel_rfl) (by kernel_rfl) (by kernel_rfl) (by kernel_rfl) (by kernel_rfl)
end Go.Proofs.YtnfcfigefdbkhaaGreatDoor
