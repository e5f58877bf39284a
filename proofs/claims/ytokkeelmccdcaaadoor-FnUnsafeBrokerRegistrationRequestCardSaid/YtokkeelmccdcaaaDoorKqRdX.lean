/- More of the reader's methods: groups of seven bits, what is counted by them, unknown tags. -/
import Derived.Test.YtokkeelmccdcaaaDoorKqInst
import Derived.Test.YtokkeelmccdcaaaDoorKqP03
import Derived.Test.YtokkeelmccdcaaaDoorKqP04
import Derived.Test.YtokkeelmccdcaaaDoorKqP02
set_option linter.unusedVariables false
set_option linter.unusedSimpArgs false
namespace Go.Proofs.YtokkeelmccdcaaaDoor
open Go.RowKit Go.Kq
theorem uvM : UvM Tryd.prog 63 := uv_m (et := 5) Tryd.func63 (by kernel_rfl) rfl rfl rfl (by kernel_rfl) (by kernel_rfl) (by kernel_rfl) (by kernel_rfl)
theorem mUvarint : MethV Tryd.prog 52 (.int .u32) gUv := rdruv_m (et := 5) Tryd.func52 (by kernel_rfl) rfl rfl rfl (by kernel_rfl) (by kernel_rfl) (by kernel_rfl) (by kernel_rfl) (by kernel_rfl) uvM
theorem spanM : SpanM Tryd.prog 54 := ⟨enters_of Tryd.func54 (by kernel_rfl) rfl, rdr_Span⟩
theorem setTagM : SetTagM Tryd.prog 56 := settag_m (kt := 48) (et := 22) Tryd.func56 (by kernel_rfl) rfl rfl rfl (by kernel_rfl) (by kernel_rfl) (by kernel_rfl)
theorem mTags : TagsM Tryd.prog 39 := tags_m Tryd.func39 (by kernel_rfl) rfl rfl rfl (flatB_is (by kernel_rfl)) (by kernel_rfl) (by kernel_rfl) mUvarint spanM setTagM
theorem ustrM : UStrM Tryd.prog 53 := ⟨enters_of Tryd.func53 (by kernel_rfl) rfl, unsafeString⟩
theorem mCompactString : MethV Tryd.prog 29 .str gCStr := cstr_m Tryd.func29 (by kernel_rfl) rfl rfl rfl (by kernel_rfl) (by kernel_rfl) mUvarint spanM (by kernel_rfl) (by kernel_rfl)
theorem mUnsafeCompactString : MethV Tryd.prog 27 .str gCStr := ucstr_m Tryd.func27 (by kernel_rfl) rfl rfl rfl (by kernel_rfl) (by kernel_rfl) mUvarint spanM ustrM
theorem mCompactNullableString : MethV Tryd.prog 42 .pstr gCNStr := cnstr_m Tryd.func42 (by kernel_rfl) rfl rfl rfl (by kernel_rfl) (by kernel_rfl) mUvarint spanM (by kernel_rfl) (by kernel_rfl) (by kernel_rfl) (zeroVB_is (by kernel_rfl))
theorem mUnsafeCompactNullableString : MethV Tryd.prog 41 .pstr gCNStr := ucnstr_m Tryd.func41 (by kernel_rfl) rfl rfl rfl (by kernel_rfl) (by kernel_rfl) mUvarint spanM ustrM (by kernel_rfl) (zeroVB_is (by kernel_rfl))
theorem mNullableString : MethV Tryd.prog 44 .pstr gNStr := nstr_m Tryd.func44 (by kernel_rfl) rfl rfl rfl (by kernel_rfl) (by kernel_rfl) mInt16 spanM (by kernel_rfl) (by kernel_rfl) (by kernel_rfl) (zeroVB_is (by kernel_rfl))
theorem mUnsafeNullableString : MethV Tryd.prog 43 .pstr gNStr := unstr_m Tryd.func43 (by kernel_rfl) rfl rfl rfl (by kernel_rfl) (by kernel_rfl) mInt16 spanM ustrM (by kernel_rfl) (zeroVB_is (by kernel_rfl))
theorem mCompactArrayLen : MethV Tryd.prog 32 (.int .i32) gCALen := calen_m (et := 5) Tryd.func32 (by kernel_rfl) rfl rfl rfl (by kernel_rfl) (by kernel_rfl) (by kernel_rfl) (by kernel_rfl) (by kernel_rfl) (by kernel_rfl) (by kernel_rfl) (by kernel_rfl) mUvarint
theorem mUuid : UuidM Tryd.prog 31 := uuid_m (et := 5) Tryd.func31 (by kernel_rfl) rfl rfl rfl (by kernel_rfl) (by kernel_rfl) (rowB_is (by kernel_rfl)) (by kernel_rfl) spanM
theorem uuidT : RowT Tryd.prog 52 zU := rowB_is (by kernel_rfl)
theorem mBool : MethV Tryd.prog 45 .bool gBool := rdbool_m (et := 5) Tryd.func45 (by kernel_rfl) rfl rfl rfl (by kernel_rfl) (by kernel_rfl) (by kernel_rfl) (by kernel_rfl) (by kernel_rfl) (by kernel_rfl)
end Go.Proofs.YtokkeelmccdcaaaDoor
