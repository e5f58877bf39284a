/- More of the reader's methods: groups of seven bits, what is counted by them, unknown tags. -/
import Derived.Test.YtakgipndohelcaaDoorKqInst
import Derived.Test.YtakgipndohelcaaDoorKqP12
set_option linter.unusedVariables false
set_option linter.unusedSimpArgs false
namespace Go.Proofs.YtakgipndohelcaaDoor
open Go.RowKit Go.Kq

theorem uvM : UvM Tryd.prog 108 := uv_m (et := 5) Tryd.func108 (by kernel_rfl) rfl rfl rfl (by kernel_rfl) (by kernel_rfl) (by kernel_rfl) (by kernel_rfl)
theorem mUvarint : MethV Tryd.prog 96 (.int .u32) gUv := rdruv_m (et := 5) Tryd.func96 (by kernel_rfl) rfl rfl rfl (by kernel_rfl) (by kernel_rfl) (by kernel_rfl) (by kernel_rfl) (by kernel_rfl) uvM
theorem rdr_Uvarint (w : World) (rb sb : Nat) (st : RSt) (h : RW w rb sb st) : Meth Tryd.prog 96 sb rb st (rdUv st).2 (fun _ x => x = .int .u32 (rdUv st).1) w :=
  (mUvarint.call w rb sb st h).mono (by rintro e w' ⟨x, rfl, h1, h2, h3⟩; exact ⟨_, rfl, h1.u32, h2, h3⟩)
theorem spanM : SpanM Tryd.prog 98 := ⟨enters_of Tryd.func98 (by kernel_rfl) rfl, rdr_Span⟩

theorem setTagM : SetTagM Tryd.prog 97 := settag_m (kt := 48) (et := 22) Tryd.func97 (by kernel_rfl) rfl rfl rfl (by kernel_rfl) (by kernel_rfl) (by kernel_rfl)
theorem mTags : TagsM Tryd.prog 68 := tags_m Tryd.func68 (by kernel_rfl) rfl rfl rfl (flatB_is (by kernel_rfl)) (by kernel_rfl) (by kernel_rfl) mUvarint spanM setTagM

theorem ustrM : UStrM Tryd.prog 104 := ⟨enters_of Tryd.func104 (by kernel_rfl) rfl, unsafeString⟩
theorem mCompactString : MethV Tryd.prog 78 .str gCStr := cstr_m Tryd.func78 (by kernel_rfl) rfl rfl rfl (by kernel_rfl) (by kernel_rfl) mUvarint spanM (by kernel_rfl) (by kernel_rfl)
theorem mUnsafeCompactString : MethV Tryd.prog 76 .str gCStr := ucstr_m Tryd.func76 (by kernel_rfl) rfl rfl rfl (by kernel_rfl) (by kernel_rfl) mUvarint spanM ustrM
theorem mCompactNullableString : MethV Tryd.prog 73 .pstr gCNStr := cnstr_m Tryd.func73 (by kernel_rfl) rfl rfl rfl (by kernel_rfl) (by kernel_rfl) mUvarint spanM (by kernel_rfl) (by kernel_rfl) (by kernel_rfl) (zeroVB_is (by kernel_rfl))
theorem mUnsafeCompactNullableString : MethV Tryd.prog 72 .pstr gCNStr := ucnstr_m Tryd.func72 (by kernel_rfl) rfl rfl rfl (by kernel_rfl) (by kernel_rfl) mUvarint spanM ustrM (by kernel_rfl) (zeroVB_is (by kernel_rfl))
theorem mNullableString : MethV Tryd.prog 75 .pstr gNStr := nstr_m Tryd.func75 (by kernel_rfl) rfl rfl rfl (by kernel_rfl) (by kernel_rfl) mInt16 spanM (by kernel_rfl) (by kernel_rfl) (by kernel_rfl) (zeroVB_is (by kernel_rfl))
theorem mUnsafeNullableString : MethV Tryd.prog 74 .pstr gNStr := unstr_m Tryd.func74 (by kernel_rfl) rfl rfl rfl (by kernel_rfl) (by kernel_rfl) mInt16 spanM ustrM (by kernel_rfl) (zeroVB_is (by kernel_rfl))
theorem mCompactArrayLen : MethV Tryd.prog 80 (.int .i32) gCALen := calen_m (et := 5) Tryd.func80 (by kernel_rfl) rfl rfl rfl (by kernel_rfl) (by kernel_rfl) (by kernel_rfl) (by kernel_rfl) (by kernel_rfl) (by kernel_rfl) (by kernel_rfl) (by kernel_rfl) mUvarint
theorem mUuid : UuidM Tryd.prog 84 := uuid_m (et := 5) Tryd.func84 (by kernel_rfl) rfl rfl rfl (by kernel_rfl) (by kernel_rfl) (rowB_is (by kernel_rfl)) (by kernel_rfl) spanM
theorem uuidT : RowT Tryd.prog 79 zU := rowB_is (by kernel_rfl)
theorem mBool : MethV Tryd.prog 88 .bool gBool := rdbool_m (et := 5) Tryd.func88 (by kernel_rfl) rfl rfl rfl (by kernel_rfl) (by kernel_rfl) (by kernel_rfl) (by kernel_rfl) (by kernel_rfl) (by kernel_rfl)
end Go.Proofs.YtakgipndohelcaaDoor
