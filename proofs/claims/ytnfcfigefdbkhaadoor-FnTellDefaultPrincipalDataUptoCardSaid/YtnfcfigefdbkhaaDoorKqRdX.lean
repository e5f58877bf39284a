/- More of the reader's methods: groups of seven bits, what is counted by them, unknown tags. -/
import Derived.Test.YtnfcfigefdbkhaaDoorKqInst
import Derived.Test.YtnfcfigefdbkhaaDoorKqP02
import Derived.Test.YtnfcfigefdbkhaaDoorKqP01
set_option linter.unusedVariables false
set_option linter.unusedSimpArgs false
namespace Go.Proofs.YtnfcfigefdbkhaaDoor
open Go.RowKit Go.Kq
theorem uvM:UvM Tryd.prog 85:=uv_m (et:=5) Tryd.func85 (by kernel_rfl) rfl rfl rfl (by kernel_rfl) (by kernel_rfl) (by kernel_rfl) (by kernel_rfl)
theorem mUvarint:MethV Tryd.prog 72 (.int .u32) gUv:=rdruv_m (et:=5) Tryd.func72 (by kernel_rfl) rfl rfl rfl (by kernel_rfl) (by kernel_rfl) (by kernel_rfl) (by kernel_rfl) (by kernel_rfl) uvM
theorem spanM:SpanM Tryd.prog 74:=⟨enters_of Tryd.func74 (by kernel_rfl) rfl,rdr_Span⟩
theorem setTagM:SetTagM Tryd.prog 75:=settag_m (kt:=66) (et:=22) Tryd.func75 (by kernel_rfl) rfl rfl rfl (by kernel_rfl) (by kernel_rfl) (by kernel_rfl)
theorem mTags:TagsM Tryd.prog 59:=tags_m Tryd.func59 (by kernel_rfl) rfl rfl rfl (fBi (by kernel_rfl)) (by kernel_rfl) (by kernel_rfl) mUvarint spanM setTagM
theorem ustrM:UStrM Tryd.prog 73:=⟨enters_of Tryd.func73 (by kernel_rfl) rfl,unsafeString⟩
theorem mCompactString:MethV Tryd.prog 56 .str gCStr:=cstr_m Tryd.func56 (by kernel_rfl) rfl rfl rfl (by kernel_rfl) (by kernel_rfl) mUvarint spanM (by kernel_rfl) (by kernel_rfl)
theorem mUnsafeCompactString:MethV Tryd.prog 54 .str gCStr:=ucstr_m Tryd.func54 (by kernel_rfl) rfl rfl rfl (by kernel_rfl) (by kernel_rfl) mUvarint spanM ustrM
theorem mBool:MethV Tryd.prog 58 .bool gBool:=rdbool_m (et:=5) Tryd.func58 (by kernel_rfl) rfl rfl rfl (by kernel_rfl) (by kernel_rfl) (by kernel_rfl) (by kernel_rfl) (by kernel_rfl) (by kernel_rfl)
end Go.Proofs.YtnfcfigefdbkhaaDoor
