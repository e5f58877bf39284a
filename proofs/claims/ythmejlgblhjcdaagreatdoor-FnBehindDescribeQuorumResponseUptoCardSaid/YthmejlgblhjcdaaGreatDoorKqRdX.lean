/- More of the reader's methods: groups of seven bits, what is counted by them, unknown tags. -/
import Derived.Test.YthmejlgblhjcdaaGreatDoorKqInst
import Derived.Test.YthmejlgblhjcdaaGreatDoorKqP02
import Derived.Test.YthmejlgblhjcdaaGreatDoorKqP01
set_option linter.unusedVariables false
set_option linter.unusedSimpArgs false
namespace Go.Proofs.YthmejlgblhjcdaaGreatDoor
open Go.RowKit Go.Kq
theorem uvM : UvM Tryz.prog 189 := uv_m (et := 5) Tryz.func189 (by kernel_rfl) rfl rfl rfl (by kernel_rfl) (by kernel_rfl) (by kernel_rfl) (by kernel_rfl)
theorem mUvarint : MethV Tryz.prog 173 (.int .u32) gUv := rdruv_m (et := 5) Tryz.func173 (by kernel_rfl) rfl rfl rfl (by kernel_rfl) (by kernel_rfl) (by kernel_rfl) (by kernel_rfl) (by kernel_rfl) uvM
theorem spanM : SpanM Tryz.prog 175 := ⟨enters_of Tryz.func175 (by kernel_rfl) rfl, rdr_Span⟩
theorem setTagM : SetTagM Tryz.prog 176 := settag_m (kt := 75) (et := 22) Tryz.func176 (by kernel_rfl) rfl rfl rfl (by kernel_rfl) (by kernel_rfl) (by kernel_rfl)
theorem mTags : TagsM Tryz.prog 135 := tags_m Tryz.func135 (by kernel_rfl) rfl rfl rfl (flatB_is (by kernel_rfl)) (by kernel_rfl) (by kernel_rfl) mUvarint spanM setTagM
theorem ustrM : UStrM Tryz.prog 174 := ⟨enters_of Tryz.func174 (by kernel_rfl) rfl, unsafeString⟩
theorem mCompactString : MethV Tryz.prog 128 .str gCStr := cstr_m Tryz.func128 (by kernel_rfl) rfl rfl rfl (by kernel_rfl) (by kernel_rfl) mUvarint spanM (by kernel_rfl) (by kernel_rfl)
theorem mUnsafeCompactString : MethV Tryz.prog 126 .str gCStr := ucstr_m Tryz.func126 (by kernel_rfl) rfl rfl rfl (by kernel_rfl) (by kernel_rfl) mUvarint spanM ustrM
theorem mCompactNullableString : MethV Tryz.prog 132 .pstr gCNStr := cnstr_m Tryz.func132 (by kernel_rfl) rfl rfl rfl (by kernel_rfl) (by kernel_rfl) mUvarint spanM (by kernel_rfl) (by kernel_rfl) (by kernel_rfl) (zeroVB_is (by kernel_rfl))
theorem mUnsafeCompactNullableString : MethV Tryz.prog 131 .pstr gCNStr := ucnstr_m Tryz.func131 (by kernel_rfl) rfl rfl rfl (by kernel_rfl) (by kernel_rfl) mUvarint spanM ustrM (by kernel_rfl) (zeroVB_is (by kernel_rfl))
theorem mNullableString : MethV Tryz.prog 134 .pstr gNStr := nstr_m Tryz.func134 (by kernel_rfl) rfl rfl rfl (by kernel_rfl) (by kernel_rfl) mInt16 spanM (by kernel_rfl) (by kernel_rfl) (by kernel_rfl) (zeroVB_is (by kernel_rfl))
theorem mUnsafeNullableString : MethV Tryz.prog 133 .pstr gNStr := unstr_m Tryz.func133 (by kernel_rfl) rfl rfl rfl (by kernel_rfl) (by kernel_rfl) mInt16 spanM ustrM (by kernel_rfl) (zeroVB_is (by kernel_rfl))
theorem mCompactArrayLen : MethV Tryz.prog 121 (.int .i32) gCALen := calen_m (et := 5) Tryz.func121 (by kernel_rfl) rfl rfl rfl (by kernel_rfl) (by kernel_rfl) (by kernel_rfl) (by kernel_rfl) (by kernel_rfl) (by kernel_rfl) (by kernel_rfl) (by kernel_rfl) mUvarint
theorem mUuid : UuidM Tryz.prog 146 := uuid_m (et := 5) Tryz.func146 (by kernel_rfl) rfl rfl rfl (by kernel_rfl) (by kernel_rfl) (rowB_is (by kernel_rfl)) (by kernel_rfl) spanM
theorem uuidT : RowT Tryz.prog 122 zU := rowB_is (by kernel_rfl)
end Go.Proofs.YthmejlgblhjcdaaGreatDoor
