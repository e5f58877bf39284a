/- More of the reader's methods: groups of seven bits, what is counted by them, unknown tags. -/
import Derived.Test.YtnfigjjpdhhfjaaGreatDoorKqInst
import Derived.Test.YtnfigjjpdhhfjaaGreatDoorKqP02
import Derived.Test.YtnfigjjpdhhfjaaGreatDoorKqP01
set_option linter.unusedVariables false
set_option linter.unusedSimpArgs false
namespace Go.Proofs.YtnfigjjpdhhfjaaGreatDoor
open Go.RowKit Go.Kq
theorem uvM:UvM Tryz.prog 139:=uv_m (et:=5) Tryz.func139 (by kernel_rfl) rfl rfl rfl (by kernel_rfl) (by kernel_rfl) (by kernel_rfl) (by kernel_rfl)
theorem mUvarint:Z0r Tryz.prog 109 (.int .u32) gUv:=rdruv_m (et:=5) Tryz.func109 (by kernel_rfl) rfl rfl rfl (by kernel_rfl) (by kernel_rfl) (by kernel_rfl) (by kernel_rfl) (by kernel_rfl) uvM
theorem spanM:Z4g Tryz.prog 111:=⟨enters_of Tryz.func111 (by kernel_rfl) rfl,rdr_Span⟩
theorem setTagM:Z4U Tryz.prog 110:=settag_m (kt:=59) (et:=22) Tryz.func110 (by kernel_rfl) rfl rfl rfl (by kernel_rfl) (by kernel_rfl) (by kernel_rfl)
theorem mTags:TagsM Tryz.prog 108:=tags_m Tryz.func108 (by kernel_rfl) rfl rfl rfl (fBi (by kernel_rfl)) (by kernel_rfl) (by kernel_rfl) mUvarint spanM setTagM
theorem ustrM:UStrM Tryz.prog 137:=⟨enters_of Tryz.func137 (by kernel_rfl) rfl,unsafeString⟩
theorem mCompactString:Z0r Tryz.prog 104 .str Z4f:=cstr_m Tryz.func104 (by kernel_rfl) rfl rfl rfl (by kernel_rfl) (by kernel_rfl) mUvarint spanM (by kernel_rfl) (by kernel_rfl)
theorem mUnsafeCompactString:Z0r Tryz.prog 102 .str Z4f:=ucstr_m Tryz.func102 (by kernel_rfl) rfl rfl rfl (by kernel_rfl) (by kernel_rfl) mUvarint spanM ustrM
theorem mCompactNullableString:Z0r Tryz.prog 128 .pstr Z1x:=cnstr_m Tryz.func128 (by kernel_rfl) rfl rfl rfl (by kernel_rfl) (by kernel_rfl) mUvarint spanM (by kernel_rfl) (by kernel_rfl) (by kernel_rfl) (Z1X (by kernel_rfl))
theorem mUnsafeCompactNullableString:Z0r Tryz.prog 127 .pstr Z1x:=ucnstr_m Tryz.func127 (by kernel_rfl) rfl rfl rfl (by kernel_rfl) (by kernel_rfl) mUvarint spanM ustrM (by kernel_rfl) (Z1X (by kernel_rfl))
theorem mNullableString:Z0r Tryz.prog 130 .pstr Z3j:=nstr_m Tryz.func130 (by kernel_rfl) rfl rfl rfl (by kernel_rfl) (by kernel_rfl) mInt16 spanM (by kernel_rfl) (by kernel_rfl) (by kernel_rfl) (Z1X (by kernel_rfl))
theorem mUnsafeNullableString:Z0r Tryz.prog 129 .pstr Z3j:=unstr_m Tryz.func129 (by kernel_rfl) rfl rfl rfl (by kernel_rfl) (by kernel_rfl) mInt16 spanM ustrM (by kernel_rfl) (Z1X (by kernel_rfl))
theorem mCompactArrayLen:Z0r Tryz.prog 97 (.int .i32) Z32:=calen_m (et:=5) Tryz.func97 (by kernel_rfl) rfl rfl rfl (by kernel_rfl) (by kernel_rfl) (by kernel_rfl) (by kernel_rfl) (by kernel_rfl) (by kernel_rfl) (by kernel_rfl) (by kernel_rfl) mUvarint
theorem mUuid:UuidM Tryz.prog 126:=uuid_m (et:=5) Tryz.func126 (by kernel_rfl) rfl rfl rfl (by kernel_rfl) (by kernel_rfl) (Z7M (by kernel_rfl)) (by kernel_rfl) spanM
theorem uuidT:RowT Tryz.prog 120 zU:=Z7M (by kernel_rfl)
end Go.Proofs.YtnfigjjpdhhfjaaGreatDoor
