/- More of the reader's methods: groups of seven bits, what is counted by them, unknown tags. -/
import Derived.Test.YtdfkkacpliangaaDoorKqInst
import Derived.Test.YtdfkkacpliangaaDoorKqP12
namespace Go.Proofs.YtdfkkacpliangaaDoor
open Go.RowKit Go.Kq

theorem uvM : UvM Tryd.prog 80 := uv_m (et := 5) Tryd.func80 (by kernel_rfl) rfl rfl rfl (by kernel_rfl) (by kernel_rfl) (by kernel_rfl) (by kernel_rfl)
theorem mUvarint : MethV Tryd.prog 71 (.int .u32) gUv := rdruv_m (et := 5) Tryd.func71 (by kernel_rfl) rfl rfl rfl (by kernel_rfl) (by kernel_rfl) (by kernel_rfl) (by kernel_rfl) (by kernel_rfl) uvM
theorem rdr_Uvarint (w : World) (rb sb : Nat) (st : RSt) (h : RW w rb sb st) : Meth Tryd.prog 71 sb rb st (rdUv st).2 (fun _ x => x = .int .u32 (rdUv st).1) w :=
  (mUvarint.call w rb sb st h).mono (by rintro e w' ⟨x, rfl, h1, h2, h3⟩; exact ⟨_, rfl, h1.u32, h2, h3⟩)
theorem spanM : SpanM Tryd.prog 73 := ⟨enters_of Tryd.func73 (by kernel_rfl) rfl, rdr_Span⟩

theorem setTagM : SetTagM Tryd.prog 74 := settag_m (kt := 48) (et := 22) Tryd.func74 (by kernel_rfl) rfl rfl rfl (by kernel_rfl) (by kernel_rfl) (by kernel_rfl)
theorem mTags : TagsM Tryd.prog 56 := tags_m Tryd.func56 (by kernel_rfl) rfl rfl rfl (flatB_is (by kernel_rfl)) (by kernel_rfl) (by kernel_rfl) mUvarint spanM setTagM

theorem ustrM : UStrM Tryd.prog 72 := ⟨enters_of Tryd.func72 (by kernel_rfl) rfl, unsafeString⟩
theorem mCompactString : MethV Tryd.prog 62 .str gCStr := cstr_m Tryd.func62 (by kernel_rfl) rfl rfl rfl (by kernel_rfl) (by kernel_rfl) mUvarint spanM (by kernel_rfl) (by kernel_rfl)
theorem mUnsafeCompactString : MethV Tryd.prog 60 .str gCStr := ucstr_m Tryd.func60 (by kernel_rfl) rfl rfl rfl (by kernel_rfl) (by kernel_rfl) mUvarint spanM ustrM
theorem mCompactNullableString : MethV Tryd.prog 53 .pstr gCNStr := cnstr_m Tryd.func53 (by kernel_rfl) rfl rfl rfl (by kernel_rfl) (by kernel_rfl) mUvarint spanM (by kernel_rfl) (by kernel_rfl) (by kernel_rfl) (zeroVB_is (by kernel_rfl))
theorem mUnsafeCompactNullableString : MethV Tryd.prog 52 .pstr gCNStr := ucnstr_m Tryd.func52 (by kernel_rfl) rfl rfl rfl (by kernel_rfl) (by kernel_rfl) mUvarint spanM ustrM (by kernel_rfl) (zeroVB_is (by kernel_rfl))
theorem mNullableString : MethV Tryd.prog 55 .pstr gNStr := nstr_m Tryd.func55 (by kernel_rfl) rfl rfl rfl (by kernel_rfl) (by kernel_rfl) mInt16 spanM (by kernel_rfl) (by kernel_rfl) (by kernel_rfl) (zeroVB_is (by kernel_rfl))
theorem mUnsafeNullableString : MethV Tryd.prog 54 .pstr gNStr := unstr_m Tryd.func54 (by kernel_rfl) rfl rfl rfl (by kernel_rfl) (by kernel_rfl) mInt16 spanM ustrM (by kernel_rfl) (zeroVB_is (by kernel_rfl))
theorem mCompactArrayLen : MethV Tryd.prog 64 (.int .i32) gCALen := calen_m (et := 5) Tryd.func64 (by kernel_rfl) rfl rfl rfl (by kernel_rfl) (by kernel_rfl) (by kernel_rfl) (by kernel_rfl) (by kernel_rfl) (by kernel_rfl) (by kernel_rfl) (by kernel_rfl) mUvarint
end Go.Proofs.YtdfkkacpliangaaDoor
