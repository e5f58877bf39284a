/- More of the reader's methods: groups of seven bits, what is counted by them, unknown tags. -/
import Derived.Test.YtekhigcoccepjaaDoorKqInst
import Derived.Test.YtekhigcoccepjaaDoorKqP12
set_option linter.unusedVariables false
set_option linter.unusedSimpArgs false
namespace Go.Proofs.YtekhigcoccepjaaDoor
open Go.RowKit Go.Kq

theorem uvM : UvM Tryd.prog 155 := uv_m (et := 5) Tryd.func155 (by kernel_rfl) rfl rfl rfl (by kernel_rfl) (by kernel_rfl) (by kernel_rfl) (by kernel_rfl)
theorem mUvarint : MethV Tryd.prog 138 (.int .u32) gUv := rdruv_m (et := 5) Tryd.func138 (by kernel_rfl) rfl rfl rfl (by kernel_rfl) (by kernel_rfl) (by kernel_rfl) (by kernel_rfl) (by kernel_rfl) uvM
theorem rdr_Uvarint (w : World) (rb sb : Nat) (st : RSt) (h : RW w rb sb st) : Meth Tryd.prog 138 sb rb st (rdUv st).2 (fun _ x => x = .int .u32 (rdUv st).1) w :=
  (mUvarint.call w rb sb st h).mono (by rintro e w' ⟨x, rfl, h1, h2, h3⟩; exact ⟨_, rfl, h1.u32, h2, h3⟩)
theorem spanM : SpanM Tryd.prog 140 := ⟨enters_of Tryd.func140 (by kernel_rfl) rfl, rdr_Span⟩

theorem setTagM : SetTagM Tryd.prog 143 := settag_m (kt := 48) (et := 22) Tryd.func143 (by kernel_rfl) rfl rfl rfl (by kernel_rfl) (by kernel_rfl) (by kernel_rfl)
theorem mTags : TagsM Tryd.prog 107 := tags_m Tryd.func107 (by kernel_rfl) rfl rfl rfl (flatB_is (by kernel_rfl)) (by kernel_rfl) (by kernel_rfl) mUvarint spanM setTagM

theorem ustrM : UStrM Tryd.prog 139 := ⟨enters_of Tryd.func139 (by kernel_rfl) rfl, unsafeString⟩
theorem mCompactString : MethV Tryd.prog 96 .str gCStr := cstr_m Tryd.func96 (by kernel_rfl) rfl rfl rfl (by kernel_rfl) (by kernel_rfl) mUvarint spanM (by kernel_rfl) (by kernel_rfl)
theorem mUnsafeCompactString : MethV Tryd.prog 94 .str gCStr := ucstr_m Tryd.func94 (by kernel_rfl) rfl rfl rfl (by kernel_rfl) (by kernel_rfl) mUvarint spanM ustrM
theorem mCompactNullableString : MethV Tryd.prog 116 .pstr gCNStr := cnstr_m Tryd.func116 (by kernel_rfl) rfl rfl rfl (by kernel_rfl) (by kernel_rfl) mUvarint spanM (by kernel_rfl) (by kernel_rfl) (by kernel_rfl) (zeroVB_is (by kernel_rfl))
theorem mUnsafeCompactNullableString : MethV Tryd.prog 115 .pstr gCNStr := ucnstr_m Tryd.func115 (by kernel_rfl) rfl rfl rfl (by kernel_rfl) (by kernel_rfl) mUvarint spanM ustrM (by kernel_rfl) (zeroVB_is (by kernel_rfl))
theorem mNullableString : MethV Tryd.prog 118 .pstr gNStr := nstr_m Tryd.func118 (by kernel_rfl) rfl rfl rfl (by kernel_rfl) (by kernel_rfl) mInt16 spanM (by kernel_rfl) (by kernel_rfl) (by kernel_rfl) (zeroVB_is (by kernel_rfl))
theorem mUnsafeNullableString : MethV Tryd.prog 117 .pstr gNStr := unstr_m Tryd.func117 (by kernel_rfl) rfl rfl rfl (by kernel_rfl) (by kernel_rfl) mInt16 spanM ustrM (by kernel_rfl) (zeroVB_is (by kernel_rfl))
theorem mCompactArrayLen : MethV Tryd.prog 98 (.int .i32) gCALen := calen_m (et := 5) Tryd.func98 (by kernel_rfl) rfl rfl rfl (by kernel_rfl) (by kernel_rfl) (by kernel_rfl) (by kernel_rfl) (by kernel_rfl) (by kernel_rfl) (by kernel_rfl) (by kernel_rfl) mUvarint
theorem mUuid : UuidM Tryd.prog 103 := uuid_m (et := 5) Tryd.func103 (by kernel_rfl) rfl rfl rfl (by kernel_rfl) (by kernel_rfl) (rowB_is (by kernel_rfl)) (by kernel_rfl) spanM
theorem uuidT : RowT Tryd.prog 76 zU := rowB_is (by kernel_rfl)
theorem mBool : MethV Tryd.prog 125 .bool gBool := rdbool_m (et := 5) Tryd.func125 (by kernel_rfl) rfl rfl rfl (by kernel_rfl) (by kernel_rfl) (by kernel_rfl) (by kernel_rfl) (by kernel_rfl) (by kernel_rfl)
theorem mInt8 : MethV Tryd.prog 128 (.int .i8) gI8 := rdi8_m (et := 5) Tryd.func128 (by kernel_rfl) rfl rfl rfl (by kernel_rfl) (by kernel_rfl) (by kernel_rfl) (by kernel_rfl) (by kernel_rfl) (by kernel_rfl) (by kernel_rfl) (by kernel_rfl)
theorem mBytes : MethV Tryd.prog 135 .bytes gBytes := bytes_m (et := 5) Tryd.func135 (by kernel_rfl) rfl rfl rfl (by kernel_rfl) (by kernel_rfl) mInt32 spanM (by kernel_rfl)
theorem mCompactBytes : MethV Tryd.prog 134 .bytes gCBytes := cbytes_m (et := 5) Tryd.func134 (by kernel_rfl) rfl rfl rfl (by kernel_rfl) (by kernel_rfl) mUvarint spanM (by kernel_rfl)
end Go.Proofs.YtekhigcoccepjaaDoor
