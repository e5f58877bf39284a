/- More of the reader's methods: groups of seven bits, what is counted by them, unknown tags. -/
import Derived.Test.YtnfigjjpdhhfjaaGreatDoorKqInst
import Derived.Test.YtnfigjjpdhhfjaaGreatDoorKqP02
set_option linter.unusedVariables false
set_option linter.unusedSimpArgs false
namespace Go.Proofs.YtnfigjjpdhhfjaaGreatDoor
open Go.RowKit Go.Kq
theorem uvM:UvM Tryz.prog 139:=uv_m (et:=5) Tryz.func139 (by kernel_rfl) rfl rfl rfl (by kernel_rfl) (by kernel_rfl) (by kernel_rfl) (by kernel_rfl)
theorem mUvarint:Z0m Tryz.prog 109 (.int .u32) gUv:=rdruv_m (et:=5) Tryz.func109 (by kernel_rfl) rfl rfl rfl (by kernel_rfl) (by kernel_rfl) (by kernel_rfl) (by kernel_rfl) (by kernel_rfl) uvM
theorem spanM:Z4q Tryz.prog 111:=⟨enters_of Tryz.func111 (by kernel_rfl) rfl,rdr_Span⟩
theorem setTagM:Z5c Tryz.prog 110:=settag_m (kt:=59) (et:=22) Tryz.func110 (by kernel_rfl) rfl rfl rfl (by kernel_rfl) (by kernel_rfl) (by kernel_rfl)
theorem mTags:TagsM Tryz.prog 108:=tags_m Tryz.func108 (by kernel_rfl) rfl rfl rfl (fBi (by kernel_rfl)) (by kernel_rfl) (by kernel_rfl) mUvarint spanM setTagM
theorem ustrM:UStrM Tryz.prog 137:=⟨enters_of Tryz.func137 (by kernel_rfl) rfl,unsafeString⟩
theorem mCompactString:Z0m Tryz.prog 104 .str Z4c:=cstr_m Tryz.func104 (by kernel_rfl) rfl rfl rfl (by kernel_rfl) (by kernel_rfl) mUvarint spanM (by kernel_rfl) (by kernel_rfl)
theorem mUnsafeCompactString:Z0m Tryz.prog 102 .str Z4c:=ucstr_m Tryz.func102 (by kernel_rfl) rfl rfl rfl (by kernel_rfl) (by kernel_rfl) mUvarint spanM ustrM
theorem mCompactNullableString:Z0m Tryz.prog 128 .pstr Z1B:=cnstr_m Tryz.func128 (by kernel_rfl) rfl rfl rfl (by kernel_rfl) (by kernel_rfl) mUvarint spanM (by kernel_rfl) (by kernel_rfl) (by kernel_rfl) (Z1V (by kernel_rfl))
theorem mUnsafeCompactNullableString:Z0m Tryz.prog 127 .pstr Z1B:=ucnstr_m Tryz.func127 (by kernel_rfl) rfl rfl rfl (by kernel_rfl) (by kernel_rfl) mUvarint spanM ustrM (by kernel_rfl) (Z1V (by kernel_rfl))
theorem mNullableString:Z0m Tryz.prog 130 .pstr Z3m:=nstr_m Tryz.func130 (by kernel_rfl) rfl rfl rfl (by kernel_rfl) (by kernel_rfl) mInt16 spanM (by kernel_rfl) (by kernel_rfl) (by kernel_rfl) (Z1V (by kernel_rfl))
theorem mUnsafeNullableString:Z0m Tryz.prog 129 .pstr Z3m:=unstr_m Tryz.func129 (by kernel_rfl) rfl rfl rfl (by kernel_rfl) (by kernel_rfl) mInt16 spanM ustrM (by kernel_rfl) (Z1V (by kernel_rfl))
theorem mCompactArrayLen:Z0m Tryz.prog 97 (.int .i32) Z0V:=calen_m (et:=5) Tryz.func97 (by kernel_rfl) rfl rfl rfl (by kernel_rfl) (by kernel_rfl) (by kernel_rfl) (by kernel_rfl) (by kernel_rfl) (by kernel_rfl) (by kernel_rfl) (by kernel_rfl) mUvarint
theorem mUuid:UuidM Tryz.prog 126:=uuid_m (et:=5) Tryz.func126 (by kernel_rfl) rfl rfl rfl (by kernel_rfl) (by kernel_rfl) (Z83 (by kernel_rfl)) (by kernel_rfl) spanM
theorem uuidT:RowT Tryz.prog 120 zU:=Z83 (by kernel_rfl)
theorem mBool:Z0m Tryz.prog 134 .bool Z3I:=rdbool_m (et:=5) Tryz.func134 (by kernel_rfl) rfl rfl rfl (by kernel_rfl) (by kernel_rfl) (by kernel_rfl) (by kernel_rfl) (by kernel_rfl) (by kernel_rfl)
theorem mInt8:Z0m Tryz.prog 135 (.int .i8) gI8:=rdi8_m (et:=5) Tryz.func135 (by kernel_rfl) rfl rfl rfl (by kernel_rfl) (by kernel_rfl) (by kernel_rfl) (by kernel_rfl) (by kernel_rfl) (by kernel_rfl) (by kernel_rfl) (by kernel_rfl)
end Go.Proofs.YtnfigjjpdhhfjaaGreatDoor
