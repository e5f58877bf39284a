/- More of the reader's methods: groups of seven bits, what is counted by them, unknown tags. -/
import Derived.Test.YtnfcfigefdbkhaaGreatDoorKqInst
import Derived.Test.YtnfcfigefdbkhaaGreatDoorKqP03
set_option linter.unusedVariables false
set_option linter.unusedSimpArgs false
namespace Go.Proofs.YtnfcfigefdbkhaaGreatDoor
open Go.RowKit Go.Kq
theorem uvM:UvM Tryz.prog 133:=uv_m (et:=5) Tryz.func133 (by kernel_rfl) rfl rfl rfl (by kernel_rfl) (by kernel_rfl) (by kernel_rfl) (by kernel_rfl)
theorem mUvarint:MethV Tryz.prog 115 (.int .u32) gUv:=rdruv_m (et:=5) Tryz.func115 (by kernel_rfl) rfl rfl rfl (by kernel_rfl) (by kernel_rfl) (by kernel_rfl) (by kernel_rfl) (by kernel_rfl) uvM
theorem spanM:SpanM Tryz.prog 117:=⟨enters_of Tryz.func117 (by kernel_rfl) rfl,rdr_Span⟩
theorem setTagM:SetTagM Tryz.prog 116:=settag_m (kt:=64) (et:=22) Tryz.func116 (by kernel_rfl) rfl rfl rfl (by kernel_rfl) (by kernel_rfl) (by kernel_rfl)
theorem mTags:TagsM Tryz.prog 91:=tags_m Tryz.func91 (by kernel_rfl) rfl rfl rfl (fBi (by kernel_rfl)) (by kernel_rfl) (by kernel_rfl) mUvarint spanM setTagM
theorem ustrM:UStrM Tryz.prog 124:=⟨enters_of Tryz.func124 (by kernel_rfl) rfl,unsafeString⟩
theorem mCompactString:MethV Tryz.prog 87 .str gCStr:=cstr_m Tryz.func87 (by kernel_rfl) rfl rfl rfl (by kernel_rfl) (by kernel_rfl) mUvarint spanM (by kernel_rfl) (by kernel_rfl)
theorem mUnsafeCompactString:MethV Tryz.prog 85 .str gCStr:=ucstr_m Tryz.func85 (by kernel_rfl) rfl rfl rfl (by kernel_rfl) (by kernel_rfl) mUvarint spanM ustrM
theorem mCompactNullableString:MethV Tryz.prog 100 .pstr gCNStr:=cnstr_m Tryz.func100 (by kernel_rfl) rfl rfl rfl (by kernel_rfl) (by kernel_rfl) mUvarint spanM (by kernel_rfl) (by kernel_rfl) (by kernel_rfl) (zeroVB_is (by kernel_rfl))
theorem mUnsafeCompactNullableString:MethV Tryz.prog 99 .pstr gCNStr:=ucnstr_m Tryz.func99 (by kernel_rfl) rfl rfl rfl (by kernel_rfl) (by kernel_rfl) mUvarint spanM ustrM (by kernel_rfl) (zeroVB_is (by kernel_rfl))
theorem mNullableString:MethV Tryz.prog 102 .pstr gNStr:=nstr_m Tryz.func102 (by kernel_rfl) rfl rfl rfl (by kernel_rfl) (by kernel_rfl) mInt16 spanM (by kernel_rfl) (by kernel_rfl) (by kernel_rfl) (zeroVB_is (by kernel_rfl))
theorem mUnsafeNullableString:MethV Tryz.prog 101 .pstr gNStr:=unstr_m Tryz.func101 (by kernel_rfl) rfl rfl rfl (by kernel_rfl) (by kernel_rfl) mInt16 spanM ustrM (by kernel_rfl) (zeroVB_is (by kernel_rfl))
theorem mCompactArrayLen:MethV Tryz.prog 80 (.int .i32) gCALen:=calen_m (et:=5) Tryz.func80 (by kernel_rfl) rfl rfl rfl (by kernel_rfl) (by kernel_rfl) (by kernel_rfl) (by kernel_rfl) (by kernel_rfl) (by kernel_rfl) (by kernel_rfl) (by kernel_rfl) mUvarint
theorem mBool:MethV Tryz.prog 103 .bool gBool:=rdbool_m (et:=5) Tryz.func103 (by kernel_rfl) rfl rfl rfl (by kernel_rfl) (by kernel_rfl) (by kernel_rfl) (by kernel_rfl) (by kernel_rfl) (by kernel_rfl)
theorem mBytes:MethV Tryz.prog 106 .bytes gBytes:=bytes_m (et:=5) Tryz.func106 (by kernel_rfl) rfl rfl rfl (by kernel_rfl) (by kernel_rfl) mInt32 spanM (by kernel_rfl)
theorem mCompactBytes:MethV Tryz.prog 105 .bytes gCBytes:=cbytes_m (et:=5) Tryz.func105 (by kernel_rfl) rfl rfl rfl (by kernel_rfl) (by kernel_rfl) mUvarint spanM (by kernel_rfl)
end Go.Proofs.YtnfcfigefdbkhaaGreatDoor
