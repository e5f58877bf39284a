/- More of the reader's methods: groups of seven bits, what is counted by them, unknown tags. -/
import Derived.Test.YtokkeelmccdcaaaGreatDoorKqInst
import Derived.Test.YtokkeelmccdcaaaGreatDoorKqP02
set_option linter.unusedVariables false
set_option linter.unusedSimpArgs false
namespace Go.Proofs.YtokkeelmccdcaaaGreatDoor
open Go.RowKit Go.Kq
theorem uvM : UvM Tryz.prog 136 := uv_m (et := 5) Tryz.func136 (by kernel_rfl) rfl rfl rfl (by kernel_rfl) (by kernel_rfl) (by kernel_rfl) (by kernel_rfl)
theorem mUvarint : MethV Tryz.prog 125 (.int .u32) gUv := rdruv_m (et := 5) Tryz.func125 (by kernel_rfl) rfl rfl rfl (by kernel_rfl) (by kernel_rfl) (by kernel_rfl) (by kernel_rfl) (by kernel_rfl) uvM
theorem spanM : SpanM Tryz.prog 127 := ⟨enters_of Tryz.func127 (by kernel_rfl) rfl, rdr_Span⟩
theorem setTagM : SetTagM Tryz.prog 128 := settag_m (kt := 69) (et := 22) Tryz.func128 (by kernel_rfl) rfl rfl rfl (by kernel_rfl) (by kernel_rfl) (by kernel_rfl)
theorem mTags : TagsM Tryz.prog 100 := tags_m Tryz.func100 (by kernel_rfl) rfl rfl rfl (fBi (by kernel_rfl)) (by kernel_rfl) (by kernel_rfl) mUvarint spanM setTagM
theorem ustrM : UStrM Tryz.prog 126 := ⟨enters_of Tryz.func126 (by kernel_rfl) rfl, unsafeString⟩
theorem mCompactString : MethV Tryz.prog 108 .str gCStr := cstr_m Tryz.func108 (by kernel_rfl) rfl rfl rfl (by kernel_rfl) (by kernel_rfl) mUvarint spanM (by kernel_rfl) (by kernel_rfl)
theorem mUnsafeCompactString : MethV Tryz.prog 106 .str gCStr := ucstr_m Tryz.func106 (by kernel_rfl) rfl rfl rfl (by kernel_rfl) (by kernel_rfl) mUvarint spanM ustrM
theorem mCompactNullableString : MethV Tryz.prog 89 .pstr gCNStr := cnstr_m Tryz.func89 (by kernel_rfl) rfl rfl rfl (by kernel_rfl) (by kernel_rfl) mUvarint spanM (by kernel_rfl) (by kernel_rfl) (by kernel_rfl) (zeroVB_is (by kernel_rfl))
theorem mUnsafeCompactNullableString : MethV Tryz.prog 88 .pstr gCNStr := ucnstr_m Tryz.func88 (by kernel_rfl) rfl rfl rfl (by kernel_rfl) (by kernel_rfl) mUvarint spanM ustrM (by kernel_rfl) (zeroVB_is (by kernel_rfl))
theorem mNullableString : MethV Tryz.prog 91 .pstr gNStr := nstr_m Tryz.func91 (by kernel_rfl) rfl rfl rfl (by kernel_rfl) (by kernel_rfl) mInt16 spanM (by kernel_rfl) (by kernel_rfl) (by kernel_rfl) (zeroVB_is (by kernel_rfl))
theorem mUnsafeNullableString : MethV Tryz.prog 90 .pstr gNStr := unstr_m Tryz.func90 (by kernel_rfl) rfl rfl rfl (by kernel_rfl) (by kernel_rfl) mInt16 spanM ustrM (by kernel_rfl) (zeroVB_is (by kernel_rfl))
theorem mCompactArrayLen : MethV Tryz.prog 92 (.int .i32) gCALen := calen_m (et := 5) Tryz.func92 (by kernel_rfl) rfl rfl rfl (by kernel_rfl) (by kernel_rfl) (by kernel_rfl) (by kernel_rfl) (by kernel_rfl) (by kernel_rfl) (by kernel_rfl) (by kernel_rfl) mUvarint
theorem mUuid : UuidM Tryz.prog 97 := uuid_m (et := 5) Tryz.func97 (by kernel_rfl) rfl rfl rfl (by kernel_rfl) (by kernel_rfl) (rowB_is (by kernel_rfl)) (by kernel_rfl) spanM
theorem uuidT : RowT Tryz.prog 95 zU := rowB_is (by kernel_rfl)
end Go.Proofs.YtokkeelmccdcaaaGreatDoor
