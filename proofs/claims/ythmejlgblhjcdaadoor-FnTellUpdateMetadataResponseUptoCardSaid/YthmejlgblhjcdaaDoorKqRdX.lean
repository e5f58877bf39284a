/- More of the reader's methods: groups of seven bits, what is counted by them, unknown tags. -/
import Derived.Test.YthmejlgblhjcdaaDoorKqInst
import Derived.Test.YthmejlgblhjcdaaDoorKqP02
import Derived.Laws.IdiomCopy
import Derived.Test.YthmejlgblhjcdaaDoorKqP01
set_option linter.unusedVariables false
set_option linter.unusedSimpArgs false
namespace Go.Proofs.YthmejlgblhjcdaaDoor
open Go.RowKit Go.Kq
theorem uvM : UvM Tryd.prog 58 := uv_m (et := 5) Tryd.func58 (by kernel_rfl) rfl rfl rfl (by kernel_rfl) (by kernel_rfl) (by kernel_rfl) (by kernel_rfl)
theorem mUvarint : MethV Tryd.prog 50 (.int .u32) gUv := rdruv_m (et := 5) Tryd.func50 (by kernel_rfl) rfl rfl rfl (by kernel_rfl) (by kernel_rfl) (by kernel_rfl) (by kernel_rfl) (by kernel_rfl) uvM
theorem spanM : SpanM Tryd.prog 52 := ⟨enters_of Tryd.func52 (by kernel_rfl) rfl, rdr_Span⟩
theorem setTagM : SetTagM Tryd.prog 51 := settag_m (kt := 63) (et := 22) Tryd.func51 (by kernel_rfl) rfl rfl rfl (by kernel_rfl) (by kernel_rfl) (by kernel_rfl)
theorem mTags : TagsM Tryd.prog 43 := tags_m Tryd.func43 (by kernel_rfl) rfl rfl rfl (flatB_is (by kernel_rfl)) (by kernel_rfl) (by kernel_rfl) mUvarint spanM setTagM
end Go.Proofs.YthmejlgblhjcdaaDoor
