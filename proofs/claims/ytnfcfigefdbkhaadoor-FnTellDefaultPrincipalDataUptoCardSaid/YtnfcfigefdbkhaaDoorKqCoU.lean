/- What the things of this program share whose version lies ahead of them. -/
import Derived.Test.YtnfcfigefdbkhaaDoorKqCoT
import Derived.Test.YtnfcfigefdbkhaaDoorKqP02
import Derived.Test.YtnfcfigefdbkhaaDoorKqP05
import Derived.Test.YtnfcfigefdbkhaaDoorKqP06
set_option linter.unusedVariables false
set_option linter.unusedSimpArgs false
namespace Go.Proofs.YtnfcfigefdbkhaaDoor
open Go.Kq
theorem keptA (fs:List Kq.Fd) (h:freeAll fs=true):KeptM Tryd.prog 8 fs (partW fs) :=
  kept_m (te:=5) Tryd.func8 (by kernel_rfl) rfl rfl rfl (by kernel_rfl) octT (fBi (by kernel_rfl)) (fBi (by kernel_rfl)) (by kernel_rfl) (by kernel_rfl) wFix (wWrite fs h)
end Go.Proofs.YtnfcfigefdbkhaaDoor
