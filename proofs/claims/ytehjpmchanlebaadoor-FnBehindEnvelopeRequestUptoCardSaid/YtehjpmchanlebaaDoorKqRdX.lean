/- More of the reader's methods: groups of seven bits, what is counted by them, unknown tags. -/
import Derived.Test.YtehjpmchanlebaaDoorKqInst
import Derived.Test.YtehjpmchanlebaaDoorKqP02
set_option linter.unusedVariables false
set_option linter.unusedSimpArgs false
namespace Go.Proofs.YtehjpmchanlebaaDoor
open Go.RowKit Go.Kq
theorem uvM : UvM Tryd.prog 102 := uv_m (et := 5) Tryd.func102 (by kernel_rfl) rfl rfl rfl (by kernel_rfl) (by kernel_rfl) (by kernel_rfl) (by kernel_rfl)
theorem mUvarint : MethV Tryd.prog 95 (.int .u32) gUv := rdruv_m (et := 5) Tryd.func95 (by kernel_rfl) rfl rfl rfl (by kernel_rfl) (by kernel_rfl) (by kernel_rfl) (by kernel_rfl) (by kernel_rfl) uvM
theorem spanM : SpanM Tryd.prog 97 := ⟨enters_of Tryd.func97 (by kernel_rfl) rfl, rdr_Span⟩
theorem setTagM : SetTagM Tryd.prog 96 := settag_m (kt := 58) (et := 22) Tryd.func96 (by kernel_rfl) rfl rfl rfl (by kernel_rfl) (by kernel_rfl) (by kernel_rfl)
theorem mTags : TagsM Tryd.prog 80 := tags_m Tryd.func80 (by kernel_rfl) rfl rfl rfl (flatB_is (by kernel_rfl)) (by kernel_rfl) (by kernel_rfl) mUvarint spanM setTagM
theorem mBytes : MethV Tryd.prog 90 .bytes gBytes := bytes_m (et := 5) Tryd.func90 (by kernel_rfl) rfl rfl rfl (by kernel_rfl) (by kernel_rfl) mInt32 spanM (by kernel_rfl)
theorem mCompactBytes : MethV Tryd.prog 89 .bytes gCBytes := cbytes_m (et := 5) Tryd.func89 (by kernel_rfl) rfl rfl rfl (by kernel_rfl) (by kernel_rfl) mUvarint spanM (by kernel_rfl)
end Go.Proofs.YtehjpmchanlebaaDoor
